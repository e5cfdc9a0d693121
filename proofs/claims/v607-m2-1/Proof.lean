import JvmDerived
import JvmDerived.Pilot.@@N@@Statement
import JvmDerived.Pilot.@@N@@Code
set_option linter.unusedVariables false
set_option linter.unusedSimpArgs false
namespace Jvm.Pilot.@@N@@
open Jvm Jvm.ClassFile Sem Op Lib Jvm.Free Jvm.Stand Jvm.LawKit Jvm.RoadKit Bundle Jvm.Pilot.@@N@@.Jvm.D
/-- from T with the frame fr on top the invocation ends; Q holds of what it returned, of the heap and of the written places; kc cells and ks slots at most are new -/
def Go (p : Program) (e : Env) (below : List Frame) (s : State) (kc ks : Nat) (Q : Option Value → Heap → List Loc → Prop) (T : State) (fr : JFrame) : Prop :=
  ∃ s₂ o, Steps p.tables e below (T.setTop fr) s₂ ∧ s₂.status = .running ∧ Ended s₂ below o ∧ ∃ v L, o = .returned v ∧ Q v s₂.heap L ∧ FrameEnd s o s₂ L kc ks
section OwnKit
variable {p : Program} {l : Launch} {e : Env} {R : Room} {s : State} {m : MethodId} {args : Array Value} {below : List Frame} {meth : Method} {c : Code} {T T' : State} {locs : List Loc} {cells slots : Nat} {Z : State} {a0 : Array Value} {h : Heap} {kc ks : Nat} {Q : Option Value → Heap → List Loc → Prop}
theorem own_st {fr fr' : JFrame} (st : ∀ t, Steps p.tables e below (T'.setTop fr') t → Steps p.tables e below (T.setTop fr) t) (k : Go p e below s kc ks Q T' fr') : Go p e below s kc ks Q T fr := by
  obtain ⟨s₂, o, h1, h2⟩ := k
  exact ⟨s₂, o, st _ h1, h2⟩
theorem own_tr {fr fr' : JFrame} (st : Steps p.tables e below (T.setTop fr) (T'.setTop fr')) (k : Go p e below s kc ks Q T' fr') : Go p e below s kc ks Q T fr :=
  own_st (fun _ q => st.trans q) k
theorem own_met {y : MethodName} {bytes : ByteArray} {maxL : Nat} {ret : Option FieldType} {ws : List Jvm.Cond} {rm : Room} {as' : Array Value} {Ls : Array Slot} {h0 : Heap} (hn : plainFor y = true) (hef : ∀ m : MethodId, entryFrame m as' maxL = mkF m 0 Ls [])
    (body : ∀ (p : Program) (e : Env) (s : State) (m : MethodId) (below : List Frame) (meth : Method) (c : Code) (s₁ : State), p.tables.exec = Jvm.exec → c.code = bytes → c.maxLocals = maxL → meth.sig.returnType = ret → meth.locks = false → Z.Warmed39 s.vm → s.vm.findClass y.cls = some m.cls → meth.name = y.name →
      Stand p l e rm s m as' below meth c s₁ [] 0 0 → s₁.heap = h0 → s.heap = h0 → Go p e below s rm.cells rm.slots Q s₁ (mkF m 0 Ls [])) :
    MetFree l y (head1 (Jvm.Cond.code y bytes maxL ret :: ws) rm) (fun a U => a = as' ∧ Z.Warmed39 U.vm ∧ U.heap = h0) (fun _ _ _ _ _ => True) (fun _ U o U' => ∃ v L, o = .returned v ∧ Q v U'.heap L ∧ FrameEnd U o U' L rm.cells rm.slots) := by
  refine MetFree.of_bodySF hn hisR ?_
  intro p e s m args below meth c s₁ Bd hml0 hP hK
  obtain ⟨rfl, hZ, hh⟩ := hP
  have hg := body p e s m below meth c s₁ Bd.exec Bd.bytes hml0 Bd.returns Bd.notSynchronized hZ (findClass_of_methodNamed Bd.named) (name_of_methodNamed Bd.named Bd.method).1 (Stand.of_body Bd) (by rw [← hh, Bd.state]; rfl) hh
  unfold Go at hg
  rw [← hef m] at hg
  exact hg
theorem own_ret (X : Stand p l e R s m args below meth c T locs cells slots) (hx : p.tables.exec = Jvm.exec) (hlk : meth.locks = false) {pc : Nat} {Ls : Array Slot} {w : Value} {t : FieldType} {i : Instr} {rest : List Value} (hret : meth.sig.returnType = some t) (hn : narrow t w = w)
    (hi : (i = .ireturn ∧ (t = .int ∨ t = .boolean ∨ t = .byte ∨ t = .char ∨ t = .short) ∧ ∃ z, w = .int z) ∨ (i = .lreturn ∧ t = .long ∧ ∃ z, w = .long z) ∨ (i = .dreturn ∧ t = .double ∧ ∃ z, w = .double z) ∨ (i = .freturn ∧ t = .float ∧ ∃ z, w = .float z) ∨ (i = .areturn ∧ t.isReference = true ∧ w.isRef = true))
    (hd : decode c.code pc = .ok (i, 1)) (hc : cells ≤ kc) (hs : slots ≤ ks) (hq : Q (some w) T.heap locs) : Go p e below s kc ks Q T (mkF m pc Ls (w :: rest)) := by
  obtain ⟨fs, hr, hrun, hended, hW, hsame⟩ := X.leave (v := some w) (fun h => by rw [hret] at h; cases h) hlk
  exact ⟨_, _, retOut X hx hret hn hi hd hr, hrun, hended, _, _, rfl, hq, ⟨_, rfl⟩, hW, hsame.mono hc hs⟩
theorem own_retI (X : Stand p l e R s m args below meth c T locs cells slots) (hx : p.tables.exec = Jvm.exec) (hlk : meth.locks = false) {pc : Nat} {Ls : Array Slot} {z : Int32} {rest : List Value} (hret : meth.sig.returnType = some .int)
    (hd : decode c.code pc = .ok (.ireturn, 1)) (hc : cells ≤ kc) (hs : slots ≤ ks) (hq : Q (some (.int z)) T.heap locs) : Go p e below s kc ks Q T (mkF m pc Ls (.int z :: rest)) :=
  own_ret X hx hlk hret rfl (Or.inl ⟨rfl, Or.inl rfl, _, rfl⟩) hd hc hs hq
theorem own_retJ (X : Stand p l e R s m args below meth c T locs cells slots) (hx : p.tables.exec = Jvm.exec) (hlk : meth.locks = false) {pc : Nat} {Ls : Array Slot} {z : Int64} {rest : List Value} (hret : meth.sig.returnType = some .long)
    (hd : decode c.code pc = .ok (.lreturn, 1)) (hc : cells ≤ kc) (hs : slots ≤ ks) (hq : Q (some (.long z)) T.heap locs) : Go p e below s kc ks Q T (mkF m pc Ls (.long z :: rest)) :=
  own_ret X hx hlk hret rfl (Or.inr (Or.inl ⟨rfl, rfl, _, rfl⟩)) hd hc hs hq
theorem own_retA (X : Stand p l e R s m args below meth c T locs cells slots) (hx : p.tables.exec = Jvm.exec) (hlk : meth.locks = false) {pc : Nat} {Ls : Array Slot} {w : Value} {t : FieldType} {rest : List Value} (hret : meth.sig.returnType = some t) (ht : t.isReference = true) (hw : w.isRef = true)
    (hd : decode c.code pc = .ok (.areturn, 1)) (hc : cells ≤ kc) (hs : slots ≤ ks) (hq : Q (some w) T.heap locs) : Go p e below s kc ks Q T (mkF m pc Ls (w :: rest)) :=
  own_ret X hx hlk hret (by cases w <;> simp [Value.isRef] at hw <;> cases t <;> simp [FieldType.isReference] at ht <;> rfl) (Or.inr (Or.inr (Or.inr (Or.inr ⟨rfl, ht, hw⟩)))) hd hc hs hq
theorem own_retV (X : Stand p l e R s m args below meth c T locs cells slots) (hx : p.tables.exec = Jvm.exec) (hlk : meth.locks = false) {pc : Nat} {Ls : Array Slot} (hret : meth.sig.returnType = none)
    (hd : decode c.code pc = .ok (.return_, 1)) (hc : cells ≤ kc) (hs : slots ≤ ks) (hq : Q none T.heap locs) : Go p e below s kc ks Q T (mkF m pc Ls []) := by
  obtain ⟨fs, hr, hrun, hended, hW, hsame⟩ := X.leave (v := none) (fun _ => rfl) hlk
  exact ⟨_, _, X.returnOut hx hret hd hr, hrun, hended, _, _, rfl, hq, ⟨_, rfl⟩, hW, hsame.mono hc hs⟩
theorem own_bit {z : Int32} (h : z.toInt = 0 ∨ z.toInt = 1) : z = 0 ∨ z = 1 := by
  rcases h with h | h
  · exact Or.inl (Int32.toInt_inj.mp h)
  · exact Or.inr (Int32.toInt_inj.mp h)
theorem own_retZ (X : Stand p l e R s m args below meth c T locs cells slots) (hx : p.tables.exec = Jvm.exec) (hlk : meth.locks = false) {pc : Nat} {Ls : Array Slot} {z : Int32} {rest : List Value} (hret : meth.sig.returnType = some .boolean) (hz : z.toInt = 0 ∨ z.toInt = 1)
    (hd : decode c.code pc = .ok (.ireturn, 1)) (hc : cells ≤ kc) (hs : slots ≤ ks) (hq : Q (some (.int z)) T.heap locs) : Go p e below s kc ks Q T (mkF m pc Ls (.int z :: rest)) :=
  own_ret X hx hlk hret (by rcases own_bit hz with rfl | rfl <;> rfl) (Or.inl ⟨rfl, Or.inr (Or.inl rfl), _, rfl⟩) hd hc hs hq
theorem own_one {z : Int32} (h : z.toInt = 1) : z = 1 := Int32.toInt_inj.mp h
/-- a static call by the callee's contract -/
theorem own_callS (X : Stand p l e R s m args below meth c T locs cells slots) (hx : p.tables.exec = Jvm.exec) (hZ : Z.Warmed39 s.vm) {own : String} {index : Nat} {y : MethodName} {bytes : ByteArray} {maxL : Nat} {ret : Option FieldType} (hown : s.vm.findClass own = some m.cls)
    (w1 : (Jvm.Cond.methodLink own index y).before a0 Z = true) (w2 : (Jvm.Cond.static y).before a0 Z = true) (w3 : (Jvm.Cond.initialized y.cls).before a0 Z = true) (w4 : (Jvm.Cond.code y bytes maxL ret).before a0 Z = true) (hy : y.cls ≠ "java/lang/invoke/MethodHandle" ∧ y.cls ≠ "java/lang/invoke/VarHandle")
    {rm : Room} {Q' : Option Value → Heap → List Loc → Prop} {argsL rest stk : List Value} {pc W : Nat} {Ls : Array Slot}
    (hM : MetFree l y (head1 [Jvm.Cond.code y bytes maxL ret] rm) (fun a U => a = argsL.toArray ∧ Z.Warmed39 U.vm ∧ U.heap = h) (fun _ _ _ _ _ => True) (fun _ U o U' => ∃ v L, o = .returned v ∧ Q' v U'.heap L ∧ FrameEnd U o U' L rm.cells rm.slots))
    (eT : T.heap = h) (hsize : Ls.size = c.maxLocals) (hlen : ∀ sig, parseMethodDescriptor y.desc = some sig → argsL.length = sig.parameters.length) (hst : stk = argsL.reverse ++ rest) (hW : (rest.map fun v => v.category).sum ≤ W) (hd : decode c.code pc = .ok (.invokestatic index, 3))
    (hf : rm.frames + 1 ≤ R.frames) (hl : W + (maxL + 11) + rm.locals ≤ R.locals) (hc : cells + rm.cells ≤ R.cells) (hs : slots + rm.slots ≤ R.slots)
    (k : ∀ (v : Option Value) (T' : State) (L : List Loc), Stand p l e R s m args below meth c T' (locs ++ L) (cells + rm.cells) (slots + rm.slots) → Q' v T'.heap L → Go p e below s kc ks Q T' (mkF m (pc + 3) Ls (v.toList ++ rest))) :
    Go p e below s kc ks Q T (mkF m pc Ls stk) := by
  subst hst
  obtain ⟨v, _, ⟨T1, L1, k1, n1⟩, -, X1, ⟨Lc, hQ, l1, y1, z1⟩, st⟩ := Jvm.LawKit.callS X hx (y := y) hown (mvT hZ w1) (mvT hZ w2) (mvT hZ w3) (mvT hZ w4) hy (backOf (W := W) hM hZ w4 w3 hf hl) (g := mkF m pc Ls (argsL.reverse ++ rest)) rfl hsize (argsL := argsL) (rest := rest) hlen rfl (by show 2 * 0 + _ ≤ _; omega) hd (fun _ _ => ⟨rfl, eT, hc, hs⟩)
  dsimp only [Pt.U, Pt.locs, Pt.cells, Pt.slots] at X1 l1 y1 z1 st hQ
  subst l1 y1 z1
  exact own_st st (k v T1 Lc X1 hQ)
/-- a constructor by its contract -/
theorem own_callN (X : Stand p l e R s m args below meth c T locs cells slots) (hx : p.tables.exec = Jvm.exec) (hZ : Z.Warmed39 s.vm) {own : String} {index : Nat} {y : MethodName} {bytes : ByteArray} {maxL : Nat} (hown : s.vm.findClass own = some m.cls) (hy1 : y.name = "<init>")
    (w1 : (Jvm.Cond.methodLink own index y).before a0 Z = true) (w2 : (Jvm.Cond.instanceMethod y).before a0 Z = true) (w3 : (Jvm.Cond.initialized y.cls).before a0 Z = true) (w4 : (Jvm.Cond.code y bytes maxL none).before a0 Z = true) (hy : y.cls ≠ "java/lang/invoke/MethodHandle" ∧ y.cls ≠ "java/lang/invoke/VarHandle")
    {rm : Room} {Q' : Option Value → Heap → List Loc → Prop} {a : Addr} {argsL rest stk : List Value} {pc W : Nat} {Ls : Array Slot}
    (hM : MetFree l y (head1 [Jvm.Cond.code y bytes maxL none] rm) (fun a' U => a' = (.ref a :: argsL).toArray ∧ Z.Warmed39 U.vm ∧ U.heap = h) (fun _ _ _ _ _ => True) (fun _ U o U' => ∃ v L, o = .returned v ∧ Q' v U'.heap L ∧ FrameEnd U o U' L rm.cells rm.slots))
    (eT : T.heap = h) (hsize : Ls.size = c.maxLocals) (hlen : ∀ sig, parseMethodDescriptor y.desc = some sig → argsL.length = sig.parameters.length) (hst : stk = argsL.reverse ++ .ref a :: rest) (hW : (rest.map fun v => v.category).sum ≤ W) (hd : decode c.code pc = .ok (.invokespecial index, 3))
    (hf : rm.frames + 1 ≤ R.frames) (hl : W + (maxL + 11) + rm.locals ≤ R.locals) (hc : cells + rm.cells ≤ R.cells) (hs : slots + rm.slots ≤ R.slots)
    (k : ∀ (v : Option Value) (T' : State) (L : List Loc), Stand p l e R s m args below meth c T' (locs ++ L) (cells + rm.cells) (slots + rm.slots) → Q' v T'.heap L → Go p e below s kc ks Q T' (mkF m (pc + 3) Ls (v.toList ++ rest))) :
    Go p e below s kc ks Q T (mkF m pc Ls stk) := by
  subst hst
  obtain ⟨v, _, ⟨T1, L1, k1, n1⟩, -, X1, ⟨Lc, hQ, l1, y1, z1⟩, st⟩ := X.specialBack hx (y := y) hy1 hown (mvT hZ w1) (mvT hZ w2) (mvT hZ w4) hy (backOf (W := W) hM hZ w4 w3 hf hl) (g := mkF m pc Ls (argsL.reverse ++ .ref a :: rest)) rfl hsize (Steps.refl _) (a := a) (argsL := argsL) (rest := rest) hlen rfl (by show 2 * 0 + _ ≤ _; omega) hd (fun _ _ => ⟨rfl, eT, hc, hs⟩)
  dsimp only [Pt.U, Pt.locs, Pt.cells, Pt.slots] at X1 l1 y1 z1 st hQ
  subst l1 y1 z1
  exact own_tr st (k v T1 Lc X1 hQ)
/-- an instance method by the contract of the body that the receiver's class selects -/
theorem own_callV (X : Stand p l e R s m args below meth c T locs cells slots) (hx : p.tables.exec = Jvm.exec) (hZ : Z.Warmed39 s.vm) {own C : String} {index : Nat} {y z : MethodName} {bytes : ByteArray} {maxL : Nat} {ret : Option FieldType} (hown : s.vm.findClass own = some m.cls)
    (w1 : (Jvm.Cond.methodLink own index y).before a0 Z = true) (w2 : (Jvm.Cond.declares y).before a0 Z = true) (hnf : NotFace s y) (w3 : (Jvm.Cond.selects C y z).before a0 Z = true) (w4 : (Jvm.Cond.instanceMethod z).before a0 Z = true) (w5 : (Jvm.Cond.initialized z.cls).before a0 Z = true) (w6 : (Jvm.Cond.code z bytes maxL ret).before a0 Z = true) (hy : y.cls ≠ "java/lang/invoke/MethodHandle" ∧ y.cls ≠ "java/lang/invoke/VarHandle")
    {rm : Room} {Q' : Option Value → Heap → List Loc → Prop} {a : Addr} {argsL rest stk : List Value} {pc W : Nat} {Ls : Array Slot}
    (hM : MetFree l z (head1 [Jvm.Cond.code z bytes maxL ret] rm) (fun a' U => a' = (.ref a :: argsL).toArray ∧ Z.Warmed39 U.vm ∧ U.heap = h) (fun _ _ _ _ _ => True) (fun _ U o U' => ∃ v L, o = .returned v ∧ Q' v U'.heap L ∧ FrameEnd U o U' L rm.cells rm.slots))
    (eT : T.heap = h) (E : Exa Z h a C) (hsize : Ls.size = c.maxLocals) (hlen : ∀ sig, parseMethodDescriptor y.desc = some sig → argsL.length = sig.parameters.length) (hst : stk = argsL.reverse ++ .ref a :: rest) (hW : (rest.map fun v => v.category).sum ≤ W) (hd : decode c.code pc = .ok (.invokevirtual index, 3))
    (hf : rm.frames + 1 ≤ R.frames) (hl : W + (maxL + 11) + rm.locals ≤ R.locals) (hc : cells + rm.cells ≤ R.cells) (hs : slots + rm.slots ≤ R.slots)
    (k : ∀ (v : Option Value) (T' : State) (L : List Loc), Stand p l e R s m args below meth c T' (locs ++ L) (cells + rm.cells) (slots + rm.slots) → Q' v T'.heap L → Go p e below s kc ks Q T' (mkF m (pc + 3) Ls (v.toList ++ rest))) :
    Go p e below s kc ks Q T (mkF m pc Ls stk) := by
  subst hst
  obtain ⟨cq, kq, qa, qb, qc⟩ := isOf hZ eT E
  obtain ⟨v, _, ⟨T1, L1, k1, n1⟩, -, X1, ⟨Lc, hQ, l1, y1, z1⟩, st⟩ := X.virtualBack hx (y := y) (z := z) hown (mvT hZ w1) (mvT hZ w2) hnf (mvT hZ w3) (mvT hZ w4) hy (backOf (W := W) hM hZ w6 w5 hf hl) qa qc (g := mkF m pc Ls (argsL.reverse ++ .ref a :: rest)) rfl hsize (Steps.refl _) (argsL := argsL) (rest := rest) hlen rfl (by show 2 * 0 + _ ≤ _; omega) hd (fun _ _ => ⟨rfl, eT, hc, hs⟩)
  dsimp only [Pt.U, Pt.locs, Pt.cells, Pt.slots] at X1 l1 y1 z1 st hQ
  subst l1 y1 z1
  exact own_tr st (k v T1 Lc X1 hQ)
/-- the branches, by the integers' worth -/
theorem own_tlt {x y : Int32} (h : x.toInt < y.toInt) : if_icmp.holds .lt x y = true ∧ if_icmp.holds .ge x y = false ∧ if_icmp.holds .gt y x = true ∧ if_icmp.holds .le y x = false := tlt (Int32.lt_iff_toInt_lt.mpr h)
theorem own_flt {x y : Int32} (h : ¬ x.toInt < y.toInt) : if_icmp.holds .lt x y = false ∧ if_icmp.holds .ge x y = true ∧ if_icmp.holds .gt y x = false ∧ if_icmp.holds .le y x = true := flt fun q => h (Int32.lt_iff_toInt_lt.mp q)
theorem own_teq {x y : Int32} (h : x.toInt = y.toInt) : if_icmp.holds .eq x y = true ∧ if_icmp.holds .ne x y = false := teq (Int32.toInt_inj.mp h)
theorem own_feq {x y : Int32} (h : ¬ x.toInt = y.toInt) : if_icmp.holds .eq x y = false ∧ if_icmp.holds .ne x y = true := feq fun q => h (congrArg _ q)
theorem own_tltL {x y : Int64} (h : x.toInt < y.toInt) : ifCond.holds .lt (lcmpW x y) = true ∧ ifCond.holds .ge (lcmpW x y) = false := by
  have q := tlt ((lw_lt x y).mpr (Int64.lt_iff_toInt_lt.mpr h))
  exact ⟨(if0 _ _).trans q.1, (if0 _ _).trans q.2.1⟩
theorem own_fltL {x y : Int64} (h : ¬ x.toInt < y.toInt) : ifCond.holds .lt (lcmpW x y) = false ∧ ifCond.holds .ge (lcmpW x y) = true := by
  have q := flt fun r => h (Int64.lt_iff_toInt_lt.mp ((lw_lt x y).mp r))
  exact ⟨(if0 _ _).trans q.1, (if0 _ _).trans q.2.1⟩
theorem own_tgtL {x y : Int64} (h : y.toInt < x.toInt) : ifCond.holds .gt (lcmpW x y) = true ∧ ifCond.holds .le (lcmpW x y) = false := by
  have q := tlt ((lw_gt x y).mpr (Int64.lt_iff_toInt_lt.mpr h))
  exact ⟨(if0 _ _).trans q.2.2.1, (if0 _ _).trans q.2.2.2⟩
theorem own_fgtL {x y : Int64} (h : ¬ y.toInt < x.toInt) : ifCond.holds .gt (lcmpW x y) = false ∧ ifCond.holds .le (lcmpW x y) = true := by
  have q := flt fun r => h (Int64.lt_iff_toInt_lt.mp ((lw_gt x y).mp r))
  exact ⟨(if0 _ _).trans q.2.2.1, (if0 _ _).trans q.2.2.2⟩
theorem own_teqL {x y : Int64} (h : x.toInt = y.toInt) : ifCond.holds .eq (lcmpW x y) = true ∧ ifCond.holds .ne (lcmpW x y) = false := by
  have q := teq ((lw_eq x y).mpr (Int64.toInt_inj.mp h))
  exact ⟨(if0 _ _).trans q.1, (if0 _ _).trans q.2⟩
theorem own_feqL {x y : Int64} (h : ¬ x.toInt = y.toInt) : ifCond.holds .eq (lcmpW x y) = false ∧ ifCond.holds .ne (lcmpW x y) = true := by
  have q := feq fun r => h (congrArg _ ((lw_eq x y).mp r))
  exact ⟨(if0 _ _).trans q.1, (if0 _ _).trans q.2⟩
/-- an array by its length and what each place holds -/
def own_A (Z : State) (h : Heap) (a : Addr) (ty : FieldType) (n : Int32) (f : Nat → Value) : Prop := ∃ cl : Cell, Arr Z h a cl ty ∧ cl.slots.size = n.toNatClampNeg ∧ 0 ≤ n.toInt ∧ (∀ i, i < cl.slots.size → cl.slots[i]? = some (f i)) ∧ ∀ i, i < cl.slots.size → fits ty (f i) = true
theorem own_cl {n : Int32} : n.toNatClampNeg = n.toInt.toNat := rfl
theorem own_nneg {n : Int32} (h : 0 ≤ n.toInt) : ¬ n < 0 := fun q => by
  have q := Int32.lt_iff_toInt_lt.mp q
  have : (0 : Int32).toInt = 0 := rfl
  omega
theorem own_in {cl : Cell} {n j : Int32} (hs : cl.slots.size = n.toNatClampNeg) (h0 : 0 ≤ j.toInt) (h1 : j.toInt < n.toInt) : ¬ (j < 0 ∨ cl.slots.size ≤ j.toNatClampNeg) := by
  rintro (q | q)
  · exact own_nneg h0 q
  · rw [hs, own_cl, own_cl] at q; omega
theorem own_ilt {cl : Cell} {n j : Int32} (hs : cl.slots.size = n.toNatClampNeg) (h0 : 0 ≤ j.toInt) (h1 : j.toInt < n.toInt) : j.toInt.toNat < cl.slots.size := by rw [hs, own_cl]; omega
section OwnArr
variable {h h' : Heap} {a b : Addr} {ty : FieldType} {n : Int32} {f g : Nat → Value} {sl : Nat} {v : Value} {ws : List Addr}
theorem own_A.lt (F : own_A Z h a ty n f) : a < h.size := by obtain ⟨c, A, -⟩ := F; exact A.lt
theorem own_A.ext (F : own_A Z h a ty n f) (E : Ext h h') : own_A Z h' a ty n f := by obtain ⟨c, A, r⟩ := F; exact ⟨c, A.ext E, r⟩
theorem own_A.other (F : own_A Z h b ty n f) (W : Wr h h' a sl v) (q : b ≠ a) : own_A Z h' b ty n f := by obtain ⟨c, A, r⟩ := F; exact ⟨c, A.other W q, r⟩
theorem own_A.keep (F : own_A Z h a ty n f) (K : Keep h h' ws) (q : a ∉ ws) : own_A Z h' a ty n f := by obtain ⟨c, A, r⟩ := F; exact ⟨c, ⟨K.2.1 a c A.1 q, A.2⟩, r⟩
theorem own_A.congr (F : own_A Z h a ty n f) (q : ∀ i : Nat, (i : Int) < n.toInt → f i = g i) : own_A Z h a ty n g := by
  obtain ⟨c, A, hs, h0, H, G⟩ := F
  have t : ∀ i, i < c.slots.size → f i = g i := fun i hi => q i (by rw [hs, own_cl] at hi; omega)
  exact ⟨c, A, hs, h0, fun i hi => by rw [← t i hi]; exact H i hi, fun i hi => by rw [← t i hi]; exact G i hi⟩
theorem own_A.new {k : ClassId} (A : Arr Z h a (newA k ty n) ty) (q : 0 ≤ n.toInt) (hd : fits ty (defaultValue ty) = true) : own_A Z h a ty n (fun _ => defaultValue ty) :=
  ⟨_, A, sz_new _ _ _, q, fun i hi => by
    rw [sz_new] at hi
    simp [newA, hi], fun _ _ => hd⟩
theorem own_A.setN {cl : Cell} (A : Arr Z h a cl ty) (hs : cl.slots.size = n.toNatClampNeg) (h0 : 0 ≤ n.toInt) (H : ∀ i, i < cl.slots.size → cl.slots[i]? = some (f i)) (G : ∀ i, i < cl.slots.size → fits ty (f i) = true) (hv : fits ty v = true) {j : Nat} (W : Wr h h' a j v) (hj : j < cl.slots.size) :
    own_A Z h' a ty n (fun i => if i = j then v else f i) := by
  refine ⟨_, A.same W, by rw [sz_set]; exact hs, h0, fun i hi => ?_, fun i hi => ?_⟩
  · rw [sz_set] at hi
    by_cases e : i = j
    · subst e; simp [Cell.setSlot, hj]
    · have : j ≠ i := fun q => e q.symm
      simp [Cell.setSlot, e, this, H i hi]
  · rw [sz_set] at hi
    by_cases e : i = j
    · simp [e, hv]
    · simp [e, G i hi]
theorem own_A.set {cl : Cell} (A : Arr Z h a cl ty) (hs : cl.slots.size = n.toNatClampNeg) (h0 : 0 ≤ n.toInt) (H : ∀ i, i < cl.slots.size → cl.slots[i]? = some (f i)) (G : ∀ i, i < cl.slots.size → fits ty (f i) = true) (hv : fits ty v = true) {j : Int32} (W : Wr h h' a j.toNatClampNeg v) (hj : j.toInt.toNat < cl.slots.size) :
    own_A Z h' a ty n (fun i => if i = j.toInt.toNat then v else f i) := own_A.setN A hs h0 H G hv (j := j.toInt.toNat) W hj
end OwnArr
theorem own_A.int {h : Heap} {a : Addr} {n j : Int32} {f : Nat → Value} (F : own_A Z h a .int n f) (h0 : 0 ≤ j.toInt) (h1 : j.toInt < n.toInt) : ∃ z : Int32, f j.toInt.toNat = .int z := by
  obtain ⟨c, A, hs, hn, H, G⟩ := F
  exact fit_I (G _ (own_ilt hs h0 h1)) (Or.inl rfl)
theorem own_newarr (X : Stand p l e R s m args below meth c T locs cells slots) (hx : p.tables.exec = Jvm.exec) (hZ : Z.Warmed39 s.vm) {aty : ArrayType} (w : (Jvm.Cond.arrayClass (newarray.typeOf aty)).before a0 Z = true) (eT : T.heap = h) {pc : Nat} {Ls : Array Slot} (hd : decode c.code pc = .ok (.newarray aty, 2)) {n : Int32} {rest : List Value}
    (hn : 0 ≤ n.toInt) {cap : Nat} (hcap : n.toInt ≤ cap) (hb : cap * 8 ≤ 536870912) (hc : cells + 1 ≤ R.cells) (hl : slots + cap ≤ R.slots) (hf : fits (newarray.typeOf aty) (defaultValue (newarray.typeOf aty)) = true)
    (k : ∀ (T' : State) (h' : Heap) (a : Addr), a = h.size → Stand p l e R s m args below meth c T' locs (cells + 1) (slots + cap) → T'.heap = h' → Ext h h' → own_A Z h' a (newarray.typeOf aty) n (fun _ => defaultValue (newarray.typeOf aty)) → Go p e below s kc ks Q T' (mkF m (pc + 2) Ls (.ref a :: rest))) :
    Go p e below s kc ks Q T (mkF m pc Ls (.int n :: rest)) := by
  obtain ⟨T', h', cA, X', e', E', A', st⟩ := newP X hx hZ w eT (g := mkF m pc Ls (.int n :: rest)) rfl hd rfl (own_nneg hn) (cap := cap) (by rw [own_cl]; omega) hb hc hl
  exact own_st st (k T' h' _ rfl X' e' E' (own_A.new A' hn hf))
theorem own_alen (X : Stand p l e R s m args below meth c T locs cells slots) (hx : p.tables.exec = Jvm.exec) (hZ : Z.Warmed39 s.vm) (eT : T.heap = h) {a : Addr} {ty : FieldType} {n : Int32} {f : Nat → Value} (A : own_A Z h a ty n f) {pc : Nat} {Ls : Array Slot} {rest : List Value} (hd : decode c.code pc = .ok (.arraylength, 1))
    (k : Go p e below s kc ks Q T (mkF m (pc + 1) Ls (.int n :: rest))) : Go p e below s kc ks Q T (mkF m pc Ls (.ref a :: rest)) := by
  obtain ⟨cl, Ar, hs, h0, -, -⟩ := A
  rw [← len_of hs (own_nneg h0)] at k
  exact own_st (fun t q => X.arraylength hx (by rw [eT]; exact Ar.1) (State.isArrayOf_alike hZ.alike Ar.2.1) (g := mkF m pc Ls (.ref a :: rest)) rfl rfl hd t q) k
theorem own_iaload (X : Stand p l e R s m args below meth c T locs cells slots) (hx : p.tables.exec = Jvm.exec) (hZ : Z.Warmed39 s.vm) (eT : T.heap = h) {a : Addr} {n j : Int32} {f : Nat → Value} {v : Value} (A : own_A Z h a .int n f) (h0 : 0 ≤ j.toInt) (h1 : j.toInt < n.toInt) (hv : f j.toInt.toNat = v) {pc : Nat} {Ls : Array Slot} {rest : List Value} (hd : decode c.code pc = .ok (.iaload, 1))
    (k : Go p e below s kc ks Q T (mkF m (pc + 1) Ls (v :: rest))) : Go p e below s kc ks Q T (mkF m pc Ls (.int j :: .ref a :: rest)) := by
  obtain ⟨cl, Ar, hs, hn, H, -⟩ := A
  exact own_st (fun t q => X.iaload hx (j := j) (v := v) (by rw [eT]; exact Ar.1) (State.isArrayOf_alike hZ.alike Ar.2.1) Ar.2.2 (own_in hs h0 h1) (hv ▸ H _ (own_ilt hs h0 h1)) (g := mkF m pc Ls (.int j :: .ref a :: rest)) rfl rfl hd t q) k
theorem own_laload (X : Stand p l e R s m args below meth c T locs cells slots) (hx : p.tables.exec = Jvm.exec) (hZ : Z.Warmed39 s.vm) (eT : T.heap = h) {a : Addr} {n j : Int32} {f : Nat → Value} {v : Value} (A : own_A Z h a .long n f) (h0 : 0 ≤ j.toInt) (h1 : j.toInt < n.toInt) (hv : f j.toInt.toNat = v) {pc : Nat} {Ls : Array Slot} {rest : List Value} (hd : decode c.code pc = .ok (.laload, 1))
    (k : Go p e below s kc ks Q T (mkF m (pc + 1) Ls (v :: rest))) : Go p e below s kc ks Q T (mkF m pc Ls (.int j :: .ref a :: rest)) := by
  obtain ⟨cl, Ar, hs, hn, H, -⟩ := A
  exact own_st (fun t q => X.laload hx (j := j) (v := v) (by rw [eT]; exact Ar.1) (State.isArrayOf_alike hZ.alike Ar.2.1) Ar.2.2 (own_in hs h0 h1) (hv ▸ H _ (own_ilt hs h0 h1)) (g := mkF m pc Ls (.int j :: .ref a :: rest)) rfl rfl hd t q) k
theorem own_caload (X : Stand p l e R s m args below meth c T locs cells slots) (hx : p.tables.exec = Jvm.exec) (hZ : Z.Warmed39 s.vm) (eT : T.heap = h) {a : Addr} {n j : Int32} {f : Nat → Value} {v : Value} (A : own_A Z h a .char n f) (h0 : 0 ≤ j.toInt) (h1 : j.toInt < n.toInt) (hv : f j.toInt.toNat = v) {pc : Nat} {Ls : Array Slot} {rest : List Value} (hd : decode c.code pc = .ok (.caload, 1))
    (k : Go p e below s kc ks Q T (mkF m (pc + 1) Ls (v :: rest))) : Go p e below s kc ks Q T (mkF m pc Ls (.int j :: .ref a :: rest)) := by
  obtain ⟨cl, Ar, hs, hn, H, -⟩ := A
  exact own_st (fun t q => X.caload hx (j := j) (v := v) (by rw [eT]; exact Ar.1) (State.isArrayOf_alike hZ.alike Ar.2.1) Ar.2.2 (own_in hs h0 h1) (hv ▸ H _ (own_ilt hs h0 h1)) (g := mkF m pc Ls (.int j :: .ref a :: rest)) rfl rfl hd t q) k
theorem own_baload (X : Stand p l e R s m args below meth c T locs cells slots) (hx : p.tables.exec = Jvm.exec) (hZ : Z.Warmed39 s.vm) (eT : T.heap = h) {a : Addr} {n j : Int32} {f : Nat → Value} {v : Value} (A : own_A Z h a .byte n f) (h0 : 0 ≤ j.toInt) (h1 : j.toInt < n.toInt) (hv : f j.toInt.toNat = v) {pc : Nat} {Ls : Array Slot} {rest : List Value} (hd : decode c.code pc = .ok (.baload, 1))
    (k : Go p e below s kc ks Q T (mkF m (pc + 1) Ls (v :: rest))) : Go p e below s kc ks Q T (mkF m pc Ls (.int j :: .ref a :: rest)) := by
  obtain ⟨cl, Ar, hs, hn, H, -⟩ := A
  exact own_st (fun t q => X.baloadBytes hx (j := j) (v := v) (by rw [eT]; exact Ar.1) (State.isArrayOf_alike hZ.alike Ar.2.1) Ar.2.2 (own_in hs h0 h1) (hv ▸ H _ (own_ilt hs h0 h1)) (g := mkF m pc Ls (.int j :: .ref a :: rest)) rfl rfl hd t q) k
theorem own_zaload (X : Stand p l e R s m args below meth c T locs cells slots) (hx : p.tables.exec = Jvm.exec) (hZ : Z.Warmed39 s.vm) (eT : T.heap = h) {a : Addr} {n j : Int32} {f : Nat → Value} {v : Value} (A : own_A Z h a .boolean n f) (h0 : 0 ≤ j.toInt) (h1 : j.toInt < n.toInt) (hv : f j.toInt.toNat = v) {pc : Nat} {Ls : Array Slot} {rest : List Value} (hd : decode c.code pc = .ok (.baload, 1))
    (k : Go p e below s kc ks Q T (mkF m (pc + 1) Ls (v :: rest))) : Go p e below s kc ks Q T (mkF m pc Ls (.int j :: .ref a :: rest)) := by
  obtain ⟨cl, Ar, hs, hn, H, -⟩ := A
  exact own_st (fun t q => X.baloadBooleans hx (j := j) (v := v) (by rw [eT]; exact Ar.1) (State.isArrayOf_alike hZ.alike Ar.2.1) Ar.2.2 (own_in hs h0 h1) (hv ▸ H _ (own_ilt hs h0 h1)) (g := mkF m pc Ls (.int j :: .ref a :: rest)) rfl rfl hd t q) k
theorem own_aaload (X : Stand p l e R s m args below meth c T locs cells slots) (hx : p.tables.exec = Jvm.exec) (hZ : Z.Warmed39 s.vm) (eT : T.heap = h) {a : Addr} {ty : FieldType} {n j : Int32} {f : Nat → Value} {v : Value} (A : own_A Z h a ty n f) (hty : ty.isReference = true) (h0 : 0 ≤ j.toInt) (h1 : j.toInt < n.toInt) (hv : f j.toInt.toNat = v) {pc : Nat} {Ls : Array Slot} {rest : List Value} (hd : decode c.code pc = .ok (.aaload, 1))
    (k : Go p e below s kc ks Q T (mkF m (pc + 1) Ls (v :: rest))) : Go p e below s kc ks Q T (mkF m pc Ls (.int j :: .ref a :: rest)) := by
  obtain ⟨cl, Ar, hs, hn, H, -⟩ := A
  exact own_st (fun t q => X.aaload hx (j := j) (v := v) (by rw [eT]; exact Ar.1) (State.isArrayOf_alike hZ.alike Ar.2.1) hty Ar.2.2 (own_in hs h0 h1) (hv ▸ H _ (own_ilt hs h0 h1)) (g := mkF m pc Ls (.int j :: .ref a :: rest)) rfl rfl hd t q) k
theorem own_iastore (X : Stand p l e R s m args below meth c T locs cells slots) (hx : p.tables.exec = Jvm.exec) (hZ : Z.Warmed39 s.vm) (eT : T.heap = h) {a : Addr} {n j : Int32} {f : Nat → Value} {x : Int32} (A : own_A Z h a .int n f) (h0 : 0 ≤ j.toInt) (h1 : j.toInt < n.toInt) {pc : Nat} {Ls : Array Slot} {rest : List Value} (hd : decode c.code pc = .ok (.iastore, 1))
    (k : ∀ (T' : State) (h' : Heap), Stand p l e R s m args below meth c T' (locs ++ [⟨a, j.toNatClampNeg⟩]) cells slots → T'.heap = h' → Wr h h' a j.toNatClampNeg (.int x) → own_A Z h' a .int n (fun i => if i = j.toInt.toNat then (.int x) else f i) → Go p e below s kc ks Q T' (mkF m (pc + 1) Ls rest)) : Go p e below s kc ks Q T (mkF m pc Ls (.int x :: .int j :: .ref a :: rest)) := by
  obtain ⟨cl, Ar, hs, hn, H, G⟩ := A
  obtain ⟨T', h', X', e', W', st⟩ := stI X hx hZ eT Ar (j := j) (x := x) (own_in hs h0 h1) (g := mkF m pc Ls (.int x :: .int j :: .ref a :: rest)) rfl rfl hd
  exact own_st st (k T' h' X' e' W' (own_A.set Ar hs hn H G rfl W' (own_ilt hs h0 h1)))
theorem own_lastore (X : Stand p l e R s m args below meth c T locs cells slots) (hx : p.tables.exec = Jvm.exec) (hZ : Z.Warmed39 s.vm) (eT : T.heap = h) {a : Addr} {n j : Int32} {f : Nat → Value} {x : Int64} (A : own_A Z h a .long n f) (h0 : 0 ≤ j.toInt) (h1 : j.toInt < n.toInt) {pc : Nat} {Ls : Array Slot} {rest : List Value} (hd : decode c.code pc = .ok (.lastore, 1))
    (k : ∀ (T' : State) (h' : Heap), Stand p l e R s m args below meth c T' (locs ++ [⟨a, j.toNatClampNeg⟩]) cells slots → T'.heap = h' → Wr h h' a j.toNatClampNeg (.long x) → own_A Z h' a .long n (fun i => if i = j.toInt.toNat then (.long x) else f i) → Go p e below s kc ks Q T' (mkF m (pc + 1) Ls rest)) : Go p e below s kc ks Q T (mkF m pc Ls (.long x :: .int j :: .ref a :: rest)) := by
  obtain ⟨cl, Ar, hs, hn, H, G⟩ := A
  obtain ⟨T', h', X', e', W', st⟩ := stJ X hx hZ eT Ar (j := j) (x := x) (own_in hs h0 h1) (g := mkF m pc Ls (.long x :: .int j :: .ref a :: rest)) rfl rfl hd
  exact own_st st (k T' h' X' e' W' (own_A.set Ar hs hn H G rfl W' (own_ilt hs h0 h1)))
theorem own_bastore (X : Stand p l e R s m args below meth c T locs cells slots) (hx : p.tables.exec = Jvm.exec) (hZ : Z.Warmed39 s.vm) (eT : T.heap = h) {a : Addr} {n j : Int32} {f : Nat → Value} {x : Int32} (A : own_A Z h a .byte n f) (h0 : 0 ≤ j.toInt) (h1 : j.toInt < n.toInt) {pc : Nat} {Ls : Array Slot} {rest : List Value} (hd : decode c.code pc = .ok (.bastore, 1))
    (k : ∀ (T' : State) (h' : Heap), Stand p l e R s m args below meth c T' (locs ++ [⟨a, j.toNatClampNeg⟩]) cells slots → T'.heap = h' → Wr h h' a j.toNatClampNeg (.int (nar .byte x)) → own_A Z h' a .byte n (fun i => if i = j.toInt.toNat then (.int (nar .byte x)) else f i) → Go p e below s kc ks Q T' (mkF m (pc + 1) Ls rest)) : Go p e below s kc ks Q T (mkF m pc Ls (.int x :: .int j :: .ref a :: rest)) := by
  obtain ⟨cl, Ar, hs, hn, H, G⟩ := A
  obtain ⟨T', h', X', e', W', st⟩ := stB X hx hZ eT Ar (j := j) (x := x) (own_in hs h0 h1) (g := mkF m pc Ls (.int x :: .int j :: .ref a :: rest)) rfl rfl hd
  exact own_st st (k T' h' X' e' W' (own_A.set Ar hs hn H G (fits_nar_byte x) W' (own_ilt hs h0 h1)))
theorem own_castore (X : Stand p l e R s m args below meth c T locs cells slots) (hx : p.tables.exec = Jvm.exec) (hZ : Z.Warmed39 s.vm) (eT : T.heap = h) {a : Addr} {n j : Int32} {f : Nat → Value} {x : Int32} (A : own_A Z h a .char n f) (h0 : 0 ≤ j.toInt) (h1 : j.toInt < n.toInt) {pc : Nat} {Ls : Array Slot} {rest : List Value} (hd : decode c.code pc = .ok (.castore, 1))
    (k : ∀ (T' : State) (h' : Heap), Stand p l e R s m args below meth c T' (locs ++ [⟨a, j.toNatClampNeg⟩]) cells slots → T'.heap = h' → Wr h h' a j.toNatClampNeg (.int (nar .char x)) → own_A Z h' a .char n (fun i => if i = j.toInt.toNat then (.int (nar .char x)) else f i) → Go p e below s kc ks Q T' (mkF m (pc + 1) Ls rest)) : Go p e below s kc ks Q T (mkF m pc Ls (.int x :: .int j :: .ref a :: rest)) := by
  obtain ⟨cl, Ar, hs, hn, H, G⟩ := A
  obtain ⟨T', h', X', e', W', st⟩ := stC X hx hZ eT Ar (j := j) (x := x) (own_in hs h0 h1) (g := mkF m pc Ls (.int x :: .int j :: .ref a :: rest)) rfl rfl hd
  exact own_st st (k T' h' X' e' W' (own_A.set Ar hs hn H G (fits_nar_char x) W' (own_ilt hs h0 h1)))
theorem own_zastore (X : Stand p l e R s m args below meth c T locs cells slots) (hx : p.tables.exec = Jvm.exec) (hZ : Z.Warmed39 s.vm) (eT : T.heap = h) {a : Addr} {n j : Int32} {f : Nat → Value} {x : Int32} (A : own_A Z h a .boolean n f) (h0 : 0 ≤ j.toInt) (h1 : j.toInt < n.toInt) {pc : Nat} {Ls : Array Slot} {rest : List Value} (hd : decode c.code pc = .ok (.bastore, 1))
    (k : ∀ (T' : State) (h' : Heap), Stand p l e R s m args below meth c T' (locs ++ [⟨a, j.toNatClampNeg⟩]) cells slots → T'.heap = h' → Wr h h' a j.toNatClampNeg (.int (nar .boolean x)) → own_A Z h' a .boolean n (fun i => if i = j.toInt.toNat then (.int (nar .boolean x)) else f i) → Go p e below s kc ks Q T' (mkF m (pc + 1) Ls rest)) : Go p e below s kc ks Q T (mkF m pc Ls (.int x :: .int j :: .ref a :: rest)) := by
  obtain ⟨cl, Ar, hs, hn, H, G⟩ := A
  obtain ⟨T', h', X', e', W', st⟩ := stZ X hx hZ eT Ar (j := j) (x := x) (own_in hs h0 h1) (g := mkF m pc Ls (.int x :: .int j :: .ref a :: rest)) rfl rfl hd
  exact own_st st (k T' h' X' e' W' (own_A.set Ar hs hn H G (fits_nar_bool x) W' (own_ilt hs h0 h1)))
theorem own_eqv {args : Array Value} {s : State} {t : Term} {k : Int32} (h : (Jvm.Cond.eq t (.int k)).value args s none s [] = some true) : t.eval args s none [] s = some (.int k) := by
  simp only [Cond.value, Term.eval] at h
  cases e : t.eval args s none [] s with
  | none => simp [e] at h
  | some v => cases v <;> simp [e] at h; exact congrArg _ (congrArg _ h)
theorem own_fldeq {args : Array Value} {s : State} {t : Term} {x : Addr} {C n d : String} {k : Int32} (ht : t.eval args s none [] s = some (.ref x)) (h : (Jvm.Cond.eq (.field t C n d) (.int k)).value args s none s [] = some true) : Fld s s.heap x C n d (.int k) :=
  Fld.start ((fld_at ht).symm.trans (own_eqv h))
/-- the array at a is one of C's -/
def own_O (Z : State) (h : Heap) (a : Addr) (C : String) : Prop := ∃ cl : Cell, h[a]? = some cl ∧ Ovr Z cl.cls C
theorem own_O.ext {h h' : Heap} {a : Addr} {C : String} (F : own_O Z h a C) (E : Ext h h') : own_O Z h' a C := by obtain ⟨c, A, r⟩ := F; exact ⟨c, E.2 _ _ A, r⟩
theorem own_O.wr {h h' : Heap} {a b : Addr} {C : String} {sl : Nat} {v : Value} (F : own_O Z h a C) (W : Wr h h' b sl v) : own_O Z h' a C := by
  obtain ⟨c, A, r⟩ := F
  obtain ⟨c', e1, e2, -⟩ := wr_at W A
  exact ⟨c', e1, by rw [e2]; exact r⟩
theorem own_newarrR (X : Stand p l e R s m args below meth c T locs cells slots) (hx : p.tables.exec = Jvm.exec) (hZ : Z.Warmed39 s.vm) {own C : String} {index : Nat} (hown : s.vm.findClass own = some m.cls) (w1 : (Jvm.Cond.classLink own index C).before a0 Z = true) (w2 : (Jvm.Cond.arrayOver (.object C)).before a0 Z = true) (eT : T.heap = h) {pc : Nat} {Ls : Array Slot} (hd : decode c.code pc = .ok (.anewarray index, 3)) {n : Int32} {rest : List Value}
    (hn : 0 ≤ n.toInt) {cap : Nat} (hcap : n.toInt ≤ cap) (hb : cap * 8 ≤ 536870912) (hc : cells + 1 ≤ R.cells) (hl : slots + cap ≤ R.slots)
    (k : ∀ (T' : State) (h' : Heap) (a : Addr), a = h.size → Stand p l e R s m args below meth c T' locs (cells + 1) (slots + cap) → T'.heap = h' → Ext h h' → own_A Z h' a (.object C) n (fun _ => .null) → own_O Z h' a C → Go p e below s kc ks Q T' (mkF m (pc + 3) Ls (.ref a :: rest))) :
    Go p e below s kc ks Q T (mkF m pc Ls (.int n :: rest)) := by
  obtain ⟨T', h', cA, X', e', E', A', O', st⟩ := newR X hx hZ hown w1 w2 eT (g := mkF m pc Ls (.int n :: rest)) rfl hd rfl (own_nneg hn) (cap := cap) (by rw [own_cl]; omega) hb hc hl
  exact own_st st (k T' h' _ rfl X' e' E' (own_A.new A' hn rfl) ⟨_, A'.1, O'⟩)
theorem own_aastore (X : Stand p l e R s m args below meth c T locs cells slots) (hx : p.tables.exec = Jvm.exec) (hZ : Z.Warmed39 s.vm) (eT : T.heap = h) {a y : Addr} {n j : Int32} {f : Nat → Value} {C : String} (A : own_A Z h a (.object C) n f) (O : own_O Z h a C) (I : Ins Z h y C true) (h0 : 0 ≤ j.toInt) (h1 : j.toInt < n.toInt) {pc : Nat} {Ls : Array Slot} {rest : List Value} (hd : decode c.code pc = .ok (.aastore, 1))
    (k : ∀ (T' : State) (h' : Heap), Stand p l e R s m args below meth c T' (locs ++ [⟨a, j.toNatClampNeg⟩]) cells slots → T'.heap = h' → Wr h h' a j.toNatClampNeg (.ref y) → own_A Z h' a (.object C) n (fun i => if i = j.toInt.toNat then .ref y else f i) → Go p e below s kc ks Q T' (mkF m (pc + 1) Ls rest)) : Go p e below s kc ks Q T (mkF m pc Ls (.ref y :: .int j :: .ref a :: rest)) := by
  obtain ⟨cl, Ar, hs, hn, H, G⟩ := A
  obtain ⟨cl', o1, o2⟩ := O
  cases Ar.1.symm.trans o1
  obtain ⟨T', h', X', e', W', st⟩ := stR X hx hZ eT Ar (j := j) (v := .ref y) (own_in hs h0 h1) rfl (Sto.of Ar o2 I) (g := mkF m pc Ls (.ref y :: .int j :: .ref a :: rest)) rfl rfl hd
  exact own_st st (k T' h' X' e' W' (own_A.set Ar hs hn H G rfl W' (own_ilt hs h0 h1)))
theorem own_sk0 {h h' : Heap} {C n d : String} {v : Value} (F : Sta Z h C n d v) (K : Keep h h' []) : Sta Z h' C n d v := by
  obtain ⟨cf, i, k, f, st, cell, h1, h2, h3, h4, h5, r⟩ := F
  exact ⟨cf, i, k, f, st, cell, h1, h2, h3, h4, K.2.1 _ _ h5 nin0, r⟩
theorem own_sk1 {h h' : Heap} {a : Addr} {C n d D : String} {v : Value} (F : Sta Z h C n d v) (K : Keep h h' [a]) (E : Exa Z h a D) : Sta Z h' C n d v := by
  obtain ⟨cf, i, k, f, st, cell, h1, h2, h3, h4, h5, h6, h7⟩ := F
  obtain ⟨c2, k2, e1, e2, e3, e4, e5⟩ := E
  have ne : st ≠ a := fun q => by
    subst q
    cases h5.symm.trans e1
    rw [e4] at h6; cases h6
  exact ⟨cf, i, k, f, st, cell, h1, h2, h3, h4, K.2.1 _ _ h5 (ninS ne nin0), h6, h7⟩
/-- each of the first n places holds an object of class D -/
def own_IC (Z : State) (h : Heap) (D : String) (n : Nat) (f : Nat → Value) : Prop := ∀ i, i < n → ∃ b : Addr, f i = .ref b ∧ Exa Z h b D
theorem own_IC.ext {h h' : Heap} {D : String} {n : Nat} {f : Nat → Value} (F : own_IC Z h D n f) (E : Ext h h') : own_IC Z h' D n f := fun i hi => by obtain ⟨b, e1, e2⟩ := F i hi; exact ⟨b, e1, e2.ext E⟩
theorem own_IC.wr {h h' : Heap} {D : String} {n : Nat} {f : Nat → Value} {a : Addr} {sl : Nat} {v : Value} (F : own_IC Z h D n f) (W : Wr h h' a sl v) : own_IC Z h' D n f := fun i hi => by obtain ⟨b, e1, e2⟩ := F i hi; exact ⟨b, e1, Exa.wr W e2⟩
theorem own_IC.keep {h h' : Heap} {D : String} {n : Nat} {f : Nat → Value} {ws : List Addr} (F : own_IC Z h D n f) (K : Keep h h' ws) : own_IC Z h' D n f := fun i hi => by obtain ⟨b, e1, e2⟩ := F i hi; exact ⟨b, e1, e2.keep K⟩
/-- an object of class D is no K -/
theorem own_notIns {h : Heap} {b : Addr} {D K : String} {t : List String} {kk : Nat} (E : Exa Z h b D) (hw : ∀ w ∈ Cond.chainWords (D :: t), w.before a0 Z = true) (wi : (Jvm.Cond.instantiable K kk).before a0 Z = true) (hn : K ∉ D :: t) : Ins Z h b K false := by
  obtain ⟨cell, k, e1, e2, e3, e4, e5⟩ := E
  obtain ⟨cK, kK, i1, i2, i3, i4⟩ := Cond.instantiable_spec wi
  refine ⟨cell, cK, e1, i1, ?_⟩
  rw [Vm.notAssignable_of_chain e2 i1 i2 i3 (by simpa using (Bool.or_eq_false_iff.mp i4.1).1) hw hn]
  simp
theorem own_cache {s : State} {args : Array Value} {t : Term} {a : Addr} {K : String} {B : Jvm.Cond} (et : ∀ idx, t.eval args s none idx s = some (.ref a)) (hA : (Jvm.Cond.arrayOf t (.object K)).value args s none s [] = some true) (hL : (Jvm.Cond.eq (.length t) (.int 256)).value args s none s [] = some true)
    (h : (Jvm.Cond.all t (.and (.exactly (.elem t (.index 0)) K) B)).value args s none s [] = some true) : ∃ fc, own_A s s.heap a (.object K) 256 fc ∧ own_IC s s.heap K 256 fc := by
  obtain ⟨cl, A⟩ := Arr.start (et []) hA
  have ha := A.fin (Vm.Alike.refl _)
  have hl := own_eqv hL
  have hsz : cl.slots.size = 256 := by
    by_cases q : cl.slots.size < 2 ^ 31
    · rw [len_f (et []) ha q] at hl
      have e := congrArg Int32.toInt (Value.int.inj (Option.some.inj hl))
      rw [len_toInt q] at e
      have k : (256 : Int32).toInt = 256 := rfl
      omega
    · simp [Term.eval, et [], ha, q] at hl
  have hel : ∀ i, i < cl.slots.size → ∃ b : Addr, cl.slots[i]? = some (.ref b) ∧ Exa s s.heap b K := fun i hi => by
    have hj : ¬ i.toInt32 < 0 := fun z => (idx_in hi (by omega)) (Or.inl z)
    have hc : i.toInt32.toNatClampNeg = i := by
      rw [own_cl, len_toInt (by omega)]; rfl
    obtain ⟨u1, u2⟩ := and_e (Cond.all_elim (et []) ha h i hi)
    obtain ⟨b, eb⟩ := exa_v u1
    refine ⟨b, ?_, exa_at eb u1⟩
    have q := (elem_f (idx := [i]) (a := .index 0) (j := i.toInt32) (et _) (by have := idx_at (args := args) (s := s) (first := s) (o := none) hj; rwa [hc] at this) ha hj).symm.trans eb
    rwa [hc] at q
  refine ⟨fun i => (cl.slots[i]?).getD .null, ⟨cl, A, by rw [hsz]; rfl, by decide, fun i hi => ?_, fun i hi => ?_⟩, fun i hi => ?_⟩
  · obtain ⟨b, e, -⟩ := hel i hi; simp [e]
  · obtain ⟨b, e, -⟩ := hel i hi; simp [e, fits]
  · obtain ⟨b, e, E⟩ := hel i (by omega); exact ⟨b, by simp [e], E⟩
end OwnKit
section OwnBytes
variable {p : Program} {l : Launch} {e : Env} {R : Room} {s : State} {m : MethodId} {args : Array Value} {below : List Frame} {meth : Method} {c : Code} {T T' : State} {locs : List Loc} {cells slots : Nat} {Z : State} {a0 : Array Value} {h : Heap} {kc ks : Nat} {Q : Option Value → Heap → List Loc → Prop}
/-- newarray, with the array's class by its name -/
theorem own_newarrE (X : Stand p l e R s m args below meth c T locs cells slots) (hx : p.tables.exec = Jvm.exec) (hZ : Z.Warmed39 s.vm) {aty : ArrayType} (w : (Jvm.Cond.arrayClass (newarray.typeOf aty)).before a0 Z = true) (eT : T.heap = h) {pc : Nat} {Ls : Array Slot} (hd : decode c.code pc = .ok (.newarray aty, 2)) {n : Int32} {rest : List Value}
    (hn : 0 ≤ n.toInt) {cap : Nat} (hcap : n.toInt ≤ cap) (hb : cap * 8 ≤ 536870912) (hc : cells + 1 ≤ R.cells) (hl : slots + cap ≤ R.slots) (hf : fits (newarray.typeOf aty) (defaultValue (newarray.typeOf aty)) = true) {C : String} (hC : "[" ++ (newarray.typeOf aty).toString = C)
    (k : ∀ (T' : State) (h' : Heap) (a : Addr), a = h.size → Stand p l e R s m args below meth c T' locs (cells + 1) (slots + cap) → T'.heap = h' → Ext h h' → own_A Z h' a (newarray.typeOf aty) n (fun _ => defaultValue (newarray.typeOf aty)) → Exa Z h' a C → Go p e below s kc ks Q T' (mkF m (pc + 2) Ls (.ref a :: rest))) :
    Go p e below s kc ks Q T (mkF m pc Ls (.int n :: rest)) := by
  have hcb : componentBytes (newarray.typeOf aty) ≤ 8 := by cases aty <;> decide
  have hcap' : n.toNatClampNeg ≤ cap := by rw [own_cl]; omega
  obtain ⟨cA, kA, comp, h1, h2, h3, X', st⟩ := X.newarrayPrim hx (mvA hZ w) (g := mkF m pc Ls (.int n :: rest)) rfl hd rfl (own_nneg hn) (Nat.le_trans (Nat.mul_le_mul hcap' hcb) hb) hc (by omega)
  subst eT
  rw [hZ.alike.findClass] at h1
  obtain ⟨kZ, z1, -⟩ := Vm.findClass_spec h1
  obtain ⟨k', z2, z3⟩ := hZ.alike.2.2 _ _ z1
  cases h2.symm.trans z2
  have A' : Arr Z (T.heap.push (newA cA (newarray.typeOf aty) n)) T.heap.size (newA cA (newarray.typeOf aty) n) (newarray.typeOf aty) := ⟨by simp [newA], ⟨by simp [newA], kZ, z1, comp, by rw [← h3, z3]⟩, by simp [newA]⟩
  refine own_st st (k _ _ _ rfl (X'.more (Nat.le_refl _) (by omega)) rfl ⟨by show T.heap.size ≤ (T.heap.push _).size; simp, fun a c h => ?_⟩ (own_A.new A' hn hf) (exa_arr A' (by rw [← hC]; exact h1) rfl))
  show (T.heap.push _)[a]? = _
  rw [Array.getElem?_push_lt (Array.getElem?_eq_some_iff.mp h).1]; exact (Array.getElem?_eq_getElem _).symm.trans h
/-- a byte[] of length n whose first places hold q -/
def own_B (Z : State) (h : Heap) (a : Addr) (q : List Int32) (n : Int32) : Prop := ∃ f, own_A Z h a .byte n f ∧ ∀ i, i < q.length → f i = .int (q.getD i 0)
section
variable {h h' : Heap} {a b : Addr} {q : List Int32} {n : Int32} {sl : Nat} {v : Value} {ws : List Addr}
theorem own_B.lt (F : own_B Z h a q n) : a < h.size := by obtain ⟨f, A, -⟩ := F; exact A.lt
theorem own_B.ext (F : own_B Z h a q n) (E : Ext h h') : own_B Z h' a q n := by obtain ⟨f, A, r⟩ := F; exact ⟨f, A.ext E, r⟩
theorem own_B.other (F : own_B Z h b q n) (W : Wr h h' a sl v) (z : b ≠ a) : own_B Z h' b q n := by obtain ⟨f, A, r⟩ := F; exact ⟨f, A.other W z, r⟩
theorem own_B.keep (F : own_B Z h a q n) (K : Keep h h' ws) (z : a ∉ ws) : own_B Z h' a q n := by obtain ⟨f, A, r⟩ := F; exact ⟨f, A.keep K z, r⟩
theorem own_B.new {f : Nat → Value} (A : own_A Z h a .byte n f) : own_B Z h a [] n := ⟨f, A, fun i hi => absurd hi (by simp)⟩
end
theorem own_narb {x : Int32} (h0 : -128 ≤ x.toInt) (h1 : x.toInt ≤ 127) : nar .byte x = x := by
  have q := c_i2b x
  apply Int32.toInt_inj.mp
  show (x.toInt8.toInt32).toInt = x.toInt
  omega
theorem own_bput (X : Stand p l e R s m args below meth c T locs cells slots) (hx : p.tables.exec = Jvm.exec) (hZ : Z.Warmed39 s.vm) (eT : T.heap = h) {a : Addr} {n j x : Int32} {q : List Int32} (A : own_B Z h a q n) (h0 : j.toInt = q.length) (h1 : j.toInt < n.toInt) (b0 : -128 ≤ x.toInt) (b1 : x.toInt ≤ 127) {pc : Nat} {Ls : Array Slot} {rest : List Value} (hd : decode c.code pc = .ok (.bastore, 1))
    (k : ∀ (T' : State) (h' : Heap), Stand p l e R s m args below meth c T' (locs ++ [⟨a, j.toNatClampNeg⟩]) cells slots → T'.heap = h' → Wr h h' a j.toNatClampNeg (.int x) → own_B Z h' a (q ++ [x]) n → Go p e below s kc ks Q T' (mkF m (pc + 1) Ls rest)) : Go p e below s kc ks Q T (mkF m pc Ls (.int x :: .int j :: .ref a :: rest)) := by
  obtain ⟨f, A, F⟩ := A
  refine own_bastore X hx hZ eT A (by omega) h1 hd ?_
  intro T' h' X' e' W' A'
  rw [own_narb b0 b1] at W' A'
  refine k T' h' X' e' W' ⟨_, A', fun i hi => ?_⟩
  have jt : j.toInt.toNat = q.length := by omega
  rw [List.length_append, List.length_singleton] at hi
  by_cases t : i = q.length
  · simp [jt, t]
  · have : i < q.length := by omega
    simp only [jt, t, if_false]
    rw [F i this]
    simp [List.getD_eq_getElem?_getD, List.getElem?_append_left this]
theorem own_bget (X : Stand p l e R s m args below meth c T locs cells slots) (hx : p.tables.exec = Jvm.exec) (hZ : Z.Warmed39 s.vm) (eT : T.heap = h) {a : Addr} {n j v : Int32} {q : List Int32} (A : own_B Z h a q n) (h0 : 0 ≤ j.toInt) (h1 : j.toInt < q.length) (h2 : j.toInt < n.toInt) (hv : q.getD j.toInt.toNat 0 = v) {pc : Nat} {Ls : Array Slot} {rest : List Value} (hd : decode c.code pc = .ok (.baload, 1))
    (k : Go p e below s kc ks Q T (mkF m (pc + 1) Ls (.int v :: rest))) : Go p e below s kc ks Q T (mkF m pc Ls (.int j :: .ref a :: rest)) := by
  obtain ⟨f, A, F⟩ := A
  exact own_baload X hx hZ eT A h0 h2 (v := .int v) (by rw [F _ (by omega), hv]) hd k
theorem own_blen (X : Stand p l e R s m args below meth c T locs cells slots) (hx : p.tables.exec = Jvm.exec) (hZ : Z.Warmed39 s.vm) (eT : T.heap = h) {a : Addr} {n : Int32} {q : List Int32} (A : own_B Z h a q n) {pc : Nat} {Ls : Array Slot} {rest : List Value} (hd : decode c.code pc = .ok (.arraylength, 1))
    (k : Go p e below s kc ks Q T (mkF m (pc + 1) Ls (.int n :: rest))) : Go p e below s kc ks Q T (mkF m pc Ls (.ref a :: rest)) := by
  obtain ⟨f, A, F⟩ := A
  exact own_alen X hx hZ eT A hd k
theorem own_fitC {a : Addr} {ty : FieldType} {cl : Cell} {f : Nat → Value} (A : Arr Z h a cl ty) (H : ∀ i, i < cl.slots.size → cl.slots[i]? = some (f i)) (G : ∀ i, i < cl.slots.size → fits ty (f i) = true) : FitC Z cl := fun i v hv => by
  obtain ⟨hi, -⟩ := Array.getElem?_eq_some_iff.mp hv
  have e1 : v = f i := Option.some.inj (hv.symm.trans (H i hi))
  obtain ⟨hs, k, hk, comp, hkind⟩ := A.2.1
  have e : Z.slotType? cl.cls .none i = some ty := by simp [State.slotType?, hk, hkind]
  rw [e1]
  simpa [State.fitsSlot, e] using G i hi
/-- clone() of an array -/
theorem own_clone (X : Stand p l e R s m args below meth c T locs cells slots) (hx : p.tables.exec = Jvm.exec) (hZ : Z.Warmed39 s.vm) {own ad : String} {index : Nat} (hown : s.vm.findClass own = some m.cls)
    (w1 : (Jvm.Cond.methodLink own index ⟨ad, "clone", "()Ljava/lang/Object;"⟩).before a0 Z = true) (w2 : (Jvm.Cond.sameMethod ad "java/lang/Object" "clone" "()Ljava/lang/Object;").before a0 Z = true) (w3 : (Jvm.Cond.native ⟨"java/lang/Object", "clone", "()Ljava/lang/Object;"⟩).before a0 Z = true)
    (w4 : (Jvm.Cond.instanceMethod ⟨"java/lang/Object", "clone", "()Ljava/lang/Object;"⟩).before a0 Z = true) (w5 : (Jvm.Cond.selects ad ⟨ad, "clone", "()Ljava/lang/Object;"⟩ ⟨"java/lang/Object", "clone", "()Ljava/lang/Object;"⟩).before a0 Z = true) (w6 : (Jvm.Cond.castable ad "java/lang/Cloneable").before a0 Z = true)
    (eT : T.heap = h) {a : Addr} {ty : FieldType} {n : Int32} {f : Nat → Value} (A : own_A Z h a ty n f) (E : Exa Z h a ad) {pc : Nat} {Ls : Array Slot} {rest : List Value} (hsize : Ls.size = c.maxLocals) (hd : decode c.code pc = .ok (.invokevirtual index, 3))
    (hf : 1 ≤ R.frames) {W cap : Nat} (hW : (rest.map fun v => v.category).sum ≤ W) (hl : W + 14 ≤ R.locals) (hcap : n.toInt ≤ cap) (hc : cells + 1 ≤ R.cells) (hsl : slots + cap ≤ R.slots)
    (k : ∀ (T' : State) (h' : Heap) (a' : Addr), a' = h.size → Stand p l e R s m args below meth c T' locs (cells + 1) (slots + cap) → T'.heap = h' → Ext h h' → own_A Z h' a' ty n f → Exa Z h' a' ad → Go p e below s kc ks Q T' (mkF m (pc + 3) Ls (.ref a' :: rest))) :
    Go p e below s kc ks Q T (mkF m pc Ls (.ref a :: rest)) := by
  obtain ⟨cl, Ar, hs, hn, H, G⟩ := A
  obtain ⟨T', h', X', e', E', A', EX, st⟩ := cloneA X hx hZ hown w1 w2 w3 w4 w5 w6 eT Ar E (own_fitC Ar H G) (g := mkF m pc Ls (.ref a :: rest)) rfl hsize rfl hd hf (W := W) (cap := cap) (by show 2 * 0 + _ ≤ _; omega) hl (by rw [hs, own_cl]; omega) hc hsl
  exact own_st st (k T' h' _ rfl X' e' E' ⟨_, A', hs, hn, H, G⟩ EX)
end OwnBytes
section OwnMore
variable {p : Program} {l : Launch} {e : Env} {R : Room} {s : State} {m : MethodId} {args : Array Value} {below : List Frame} {meth : Method} {c : Code} {T T' : State} {locs : List Loc} {cells slots : Nat} {Z : State} {a0 : Array Value} {h : Heap} {kc ks : Nat} {Q : Option Value → Heap → List Loc → Prop}
theorem own_getD (f : Nat → Value) {N i : Nat} (d : Value) (q : i < N) : ((List.range N).map f).getD i d = f i := by
  simp [List.getD_eq_getElem?_getD, q]
theorem own_A.arv {h : Heap} {a : Addr} {ty : FieldType} {n : Int32} {f : Nat → Value} (F : own_A Z h a ty n f) (d : Value) : ∃ k, Arv Z h a k ty n ((List.range n.toInt.toNat).map f) d := by
  obtain ⟨cl, A, hs, h0, H, G⟩ := F
  refine ⟨cl.cls, cl, A, rfl, hs, own_nneg h0, fun i hi => ?_, fun i hi => ?_⟩
  · rw [H i hi, own_getD f d (by rw [hs, own_cl] at hi; exact hi)]
  · rw [own_getD f d (by rw [hs, own_cl] at hi; exact hi)]; exact G i hi
theorem own_A.of {h : Heap} {a : Addr} {k : ClassId} {ty : FieldType} {n : Int32} {vs : List Value} {d : Value} {f : Nat → Value} (F : Arv Z h a k ty n vs d) (h0 : 0 ≤ n.toInt) (q : ∀ i, i < n.toInt.toNat → vs.getD i d = f i) : own_A Z h a ty n f := by
  obtain ⟨cl, A, r1, hs, r3, H, G⟩ := F
  have t : ∀ i, i < cl.slots.size → vs.getD i d = f i := fun i hi => q i (by rw [hs, own_cl] at hi; exact hi)
  exact ⟨cl, A, hs, h0, fun i hi => by rw [← t i hi]; exact H i hi, fun i hi => by rw [← t i hi]; exact G i hi⟩
theorem own_splice (fb fa : Nat → Value) (N sp dp nn i : Nat) (d da : Value) (na : Nat) (hd : dp + nn ≤ N) (hs : sp + nn ≤ na) (hi : i < N) :
    (((List.range N).map fb).take dp ++ (List.range nn).map (fun j => ((List.range na).map fa).getD (sp + j) da) ++ ((List.range N).map fb).drop (dp + nn)).getD i d = if dp ≤ i ∧ i < dp + nn then fa (sp + (i - dp)) else fb i := by
  simp only [List.getD_eq_getElem?_getD, List.append_assoc]
  by_cases h1 : i < dp
  · rw [List.getElem?_append_left (by simp; omega), if_neg (by omega)]
    simp [List.getElem?_take, h1, hi]
  · rw [List.getElem?_append_right (by simp; omega)]
    simp only [List.length_take, List.length_map, List.length_range]
    have e1 : min dp N = dp := by omega
    rw [e1]
    by_cases h2 : i < dp + nn
    · rw [List.getElem?_append_left (by simp; omega), if_pos (by omega)]
      have h3 : i - dp < nn := by omega
      have h4 : sp + (i - dp) < na := by omega
      simp [h3, h4]
    · rw [List.getElem?_append_right (by simp; omega), if_neg (by omega)]
      simp only [List.length_map, List.length_range]
      rw [List.getElem?_drop]
      have e2 : dp + nn + (i - dp - nn) = i := by omega
      rw [e2]; simp [hi]
/-- System.arraycopy between arrays of one primitive kind -/
theorem own_copy (X : Stand p l e R s m args below meth c T locs cells slots) (hx : p.tables.exec = Jvm.exec) (hZ : Z.Warmed39 s.vm) {own : String} {index : Nat} (hown : s.vm.findClass own = some m.cls)
    (w1 : (Jvm.Cond.methodLink own index Jvm.Stand.acN).before a0 Z = true) (w2 : (Jvm.Cond.native Jvm.Stand.acN).before a0 Z = true) (w3 : (Jvm.Cond.static Jvm.Stand.acN).before a0 Z = true) (w4 : (Jvm.Cond.initialized "java/lang/System").before a0 Z = true) (eT : T.heap = h)
    {a b : Addr} {ty : FieldType} {na nb sp dp nn : Int32} {fa fb : Nat → Value} (A : own_A Z h a ty na fa) (B : own_A Z h b ty nb fb) (hty : refKind ty = false) (h1 : 0 ≤ sp.toInt) (h2 : 0 ≤ dp.toInt) (h3 : 0 ≤ nn.toInt) (h4 : sp.toInt + nn.toInt ≤ na.toInt) (h5 : dp.toInt + nn.toInt ≤ nb.toInt)
    {n0 : Nat} (N : Fr n0 locs) (ge : n0 ≤ b) {pc : Nat} {Ls : Array Slot} {rest : List Value} (hsize : Ls.size = c.maxLocals) (hd : decode c.code pc = .ok (.invokestatic index, 3)) (hf : 1 ≤ R.frames) {W : Nat} (hW : (rest.map fun v => v.category).sum ≤ W) (hlo : W + (nativeFrameWords "java/lang/System" "arraycopy" 5 + 11) ≤ R.locals)
    (k : ∀ (T' : State) (h' : Heap) (L : List Loc), Stand p l e R s m args below meth c T' L cells slots → T'.heap = h' → Fr n0 L → Keep h h' [b] → own_A Z h' b ty nb (fun i => if dp.toInt.toNat ≤ i ∧ i < dp.toInt.toNat + nn.toInt.toNat then fa (sp.toInt.toNat + (i - dp.toInt.toNat)) else fb i) → Go p e below s kc ks Q T' (mkF m (pc + 3) Ls rest)) :
    Go p e below s kc ks Q T (mkF m pc Ls (.int nn :: .int dp :: .ref b :: .int sp :: .ref a :: rest)) := by
  obtain ⟨ka, VA⟩ := A.arv (.int 0)
  obtain ⟨kb, VB⟩ := B.arv (.int 0)
  have hb0 : 0 ≤ nb.toInt := by obtain ⟨_, _, _, q, _⟩ := B; exact q
  obtain ⟨T', h', L, X', e', N', K', V', st⟩ := cpA X hx hZ hown w1 w2 w3 w4 eT VA VB (Or.inl ⟨rfl, hty⟩) (own_nneg h1) (own_nneg h2) (own_nneg h3) (by rw [own_cl, own_cl, own_cl]; omega) (by rw [own_cl, own_cl, own_cl]; omega) rfl (by rw [List.length_map, List.length_range, own_cl, own_cl]; omega) N ge (g := mkF m pc Ls (.int nn :: .int dp :: .ref b :: .int sp :: .ref a :: rest)) rfl hsize rfl hd hf (W := W) (by show 2 * 0 + _ ≤ _; omega) hlo
  exact own_st st (k T' h' L X' e' N' K' (own_A.of V' hb0 fun i hi => by
    rw [own_cl, own_cl, own_cl]
    exact own_splice fb fa _ _ _ _ i _ _ _ (by omega) (by omega) hi))
/-- the array at a takes arrays of class C -/
def own_OA (Z : State) (h : Heap) (a : Addr) (ty : FieldType) (C : String) : Prop := ∃ cl : Cell, h[a]? = some cl ∧ OvrA Z cl.cls ty C
theorem own_OA.ext {h h' : Heap} {a : Addr} {ty : FieldType} {C : String} (F : own_OA Z h a ty C) (E : Ext h h') : own_OA Z h' a ty C := by obtain ⟨c, A, r⟩ := F; exact ⟨c, E.2 _ _ A, r⟩
theorem own_OA.wr {h h' : Heap} {a b : Addr} {ty : FieldType} {C : String} {sl : Nat} {v : Value} (F : own_OA Z h a ty C) (W : Wr h h' b sl v) : own_OA Z h' a ty C := by
  obtain ⟨c, A, r⟩ := F
  obtain ⟨c', e1, e2, -⟩ := wr_at W A
  exact ⟨c', e1, by rw [e2]; exact r⟩
theorem own_OA.keep {h h' : Heap} {a : Addr} {ty : FieldType} {C : String} {ws : List Addr} (F : own_OA Z h a ty C) (K : Keep h h' ws) : own_OA Z h' a ty C := by
  obtain ⟨c, A, r⟩ := F
  obtain ⟨c', e1, e2, -⟩ := K.2.2 _ _ A
  exact ⟨c', e1, by rw [e2]; exact r⟩
theorem own_newarrA (X : Stand p l e R s m args below meth c T locs cells slots) (hx : p.tables.exec = Jvm.exec) (hZ : Z.Warmed39 s.vm) {own C : String} {ty : FieldType} {index : Nat} (hown : s.vm.findClass own = some m.cls) (hC : (FieldType.array ty).toString = C) (w1 : (Jvm.Cond.classLink own index C).before a0 Z = true) (w2 : (Jvm.Cond.arrayOver (.array ty)).before a0 Z = true) (eT : T.heap = h) {pc : Nat} {Ls : Array Slot} (hd : decode c.code pc = .ok (.anewarray index, 3)) {n : Int32} {rest : List Value}
    (hn : 0 ≤ n.toInt) {cap : Nat} (hcap : n.toInt ≤ cap) (hb : cap * 8 ≤ 536870912) (hc : cells + 1 ≤ R.cells) (hl : slots + cap ≤ R.slots)
    (k : ∀ (T' : State) (h' : Heap) (a : Addr), a = h.size → Stand p l e R s m args below meth c T' locs (cells + 1) (slots + cap) → T'.heap = h' → Ext h h' → own_A Z h' a (.array ty) n (fun _ => .null) → own_OA Z h' a ty C → Go p e below s kc ks Q T' (mkF m (pc + 3) Ls (.ref a :: rest))) :
    Go p e below s kc ks Q T (mkF m pc Ls (.int n :: rest)) := by
  obtain ⟨T', h', cA, X', e', E', A', EX, O', st⟩ := newRA X hx hZ hown hC w1 w2 eT (g := mkF m pc Ls (.int n :: rest)) rfl hd rfl (own_nneg hn) (cap := cap) (by rw [own_cl]; omega) hb hc hl rfl
  exact own_st st (k T' h' _ rfl X' e' E' (own_A.new A' hn rfl) ⟨_, A'.1, O'⟩)
theorem own_aastoreA (X : Stand p l e R s m args below meth c T locs cells slots) (hx : p.tables.exec = Jvm.exec) (hZ : Z.Warmed39 s.vm) (eT : T.heap = h) {a y : Addr} {n j : Int32} {f : Nat → Value} {ty : FieldType} {C : String} (A : own_A Z h a (.array ty) n f) (O : own_OA Z h a ty C) (I : Ins Z h y C true) (h0 : 0 ≤ j.toInt) (h1 : j.toInt < n.toInt) {pc : Nat} {Ls : Array Slot} {rest : List Value} (hd : decode c.code pc = .ok (.aastore, 1))
    (k : ∀ (T' : State) (h' : Heap), Stand p l e R s m args below meth c T' (locs ++ [⟨a, j.toNatClampNeg⟩]) cells slots → T'.heap = h' → Wr h h' a j.toNatClampNeg (.ref y) → own_A Z h' a (.array ty) n (fun i => if i = j.toInt.toNat then .ref y else f i) → Go p e below s kc ks Q T' (mkF m (pc + 1) Ls rest)) : Go p e below s kc ks Q T (mkF m pc Ls (.ref y :: .int j :: .ref a :: rest)) := by
  obtain ⟨cl, Ar, hs, hn, H, G⟩ := A
  obtain ⟨cl', o1, o2⟩ := O
  cases Ar.1.symm.trans o1
  obtain ⟨T', h', X', e', W', st⟩ := stR X hx hZ eT Ar (j := j) (v := .ref y) (own_in hs h0 h1) rfl (Sto.ofVA Ar rfl o2 I) (g := mkF m pc Ls (.ref y :: .int j :: .ref a :: rest)) rfl rfl hd
  exact own_st st (k T' h' X' e' W' (own_A.set Ar hs hn H G rfl W' (own_ilt hs h0 h1)))
theorem own_neT {h : Heap} {a b : Addr} {ty ty' : FieldType} {n n' : Int32} {f f' : Nat → Value} (A : own_A Z h a ty n f) (B : own_A Z h b ty' n' f') (hn : ty ≠ ty') : a ≠ b := fun q => by
  subst q
  obtain ⟨cl, A, -⟩ := A
  obtain ⟨cl', B, -⟩ := B
  cases A.1.symm.trans B.1
  obtain ⟨-, k, a1, comp, a2⟩ := A.2.1
  obtain ⟨-, k', b1, comp', b2⟩ := B.2.1
  cases a1.symm.trans b1
  rw [a2] at b2
  cases b2
  exact hn rfl
theorem own_neE {h : Heap} {a b : Addr} {ty : FieldType} {n : Int32} {f : Nat → Value} {C : String} {k : Nat} (E : Exa Z h a C) (wi : (Jvm.Cond.instantiable C k).before a0 Z = true) (B : own_A Z h b ty n f) : a ≠ b := by
  obtain ⟨cl, B, -⟩ := B
  exact ne_arr E wi B
/-- an own private method by its contract -/
theorem own_callP (X : Stand p l e R s m args below meth c T locs cells slots) (hx : p.tables.exec = Jvm.exec) (hZ : Z.Warmed39 s.vm) {own C : String} {index kk : Nat} {y : MethodName} {bytes : ByteArray} {maxL : Nat} {ret : Option FieldType} (hown : s.vm.findClass own = some m.cls)
    (w1 : (Jvm.Cond.methodLink own index y).before a0 Z = true) (w2 : (Jvm.Cond.instanceMethod y).before a0 Z = true) (w3 : (Jvm.Cond.privateMethod y).before a0 Z = true) (w4 : (Jvm.Cond.instantiable y.cls kk).before a0 Z = true) (w5 : (Jvm.Cond.initialized y.cls).before a0 Z = true) (w6 : (Jvm.Cond.code y bytes maxL ret).before a0 Z = true) (hy : y.cls ≠ "java/lang/invoke/MethodHandle" ∧ y.cls ≠ "java/lang/invoke/VarHandle")
    {rm : Room} {Q' : Option Value → Heap → List Loc → Prop} {a : Addr} {argsL rest stk : List Value} {pc W : Nat} {Ls : Array Slot}
    (hM : MetFree l y (head1 [Jvm.Cond.code y bytes maxL ret] rm) (fun a' U => a' = (.ref a :: argsL).toArray ∧ Z.Warmed39 U.vm ∧ U.heap = h) (fun _ _ _ _ _ => True) (fun _ U o U' => ∃ v L, o = .returned v ∧ Q' v U'.heap L ∧ FrameEnd U o U' L rm.cells rm.slots))
    (eT : T.heap = h) (E : Exa Z h a C) (hsize : Ls.size = c.maxLocals) (hlen : ∀ sig, parseMethodDescriptor y.desc = some sig → argsL.length = sig.parameters.length) (hst : stk = argsL.reverse ++ .ref a :: rest) (hW : (rest.map fun v => v.category).sum ≤ W) (hd : decode c.code pc = .ok (.invokevirtual index, 3))
    (hf : rm.frames + 1 ≤ R.frames) (hl : W + (maxL + 11) + rm.locals ≤ R.locals) (hc : cells + rm.cells ≤ R.cells) (hs : slots + rm.slots ≤ R.slots)
    (k : ∀ (v : Option Value) (T' : State) (L : List Loc), Stand p l e R s m args below meth c T' (locs ++ L) (cells + rm.cells) (slots + rm.slots) → Q' v T'.heap L → Go p e below s kc ks Q T' (mkF m (pc + 3) Ls (v.toList ++ rest))) :
    Go p e below s kc ks Q T (mkF m pc Ls stk) := by
  subst hst
  obtain ⟨cq, q1, q2⟩ := E.cell
  obtain ⟨cK, kK, i1, i2, i3, i4, -⟩ := Cond.instantiable_spec (mvT (args := args) hZ w4)
  have hpriv := Cond.privateMethod_at (mvP (args := #[]) hZ w3)
  have hsel := selects_self_of_private (args := args) i1 i2 (by simpa using (Bool.or_eq_false_iff.mp i4).1) hpriv (mvT hZ w2) hy
  obtain ⟨v, _, ⟨T1, L1, k1, n1⟩, -, X1, ⟨Lc, hQ, l1, y1, z1⟩, st⟩ := X.privateBack hx (y := y) hown (mvT hZ w1) (mvT hZ w2) hsel hpriv (mvT hZ w6) hy (backOf (W := W) hM hZ w6 w5 hf hl) (g := mkF m pc Ls (argsL.reverse ++ .ref a :: rest)) rfl hsize (Steps.refl _) (a := a) (by rw [eT]; exact q1) q2 (argsL := argsL) (rest := rest) hlen rfl (by show 2 * 0 + _ ≤ _; omega) hd (fun _ _ => ⟨rfl, eT, hc, hs⟩)
  dsimp only [Pt.U, Pt.locs, Pt.cells, Pt.slots] at X1 l1 y1 z1 st hQ
  subst l1 y1 z1
  exact own_tr st (k v T1 Lc X1 hQ)
/-- all that lies below u stands as it stood -/
def own_Lo (h h' : Heap) (u : Addr) : Prop := h.size ≤ h'.size ∧ ∀ (x : Addr) (c : Cell), h[x]? = some c → x < u → h'[x]? = some c
section
variable {h h' h'' : Heap} {u a : Addr} {sl : Nat} {v : Value} {ws : List Addr}
theorem own_Lo.refl (h : Heap) (u : Addr) : own_Lo h h u := ⟨Nat.le_refl _, fun _ _ q _ => q⟩
theorem own_Lo.ext (F : own_Lo h h' u) (E : Ext h' h'') : own_Lo h h'' u := ⟨Nat.le_trans F.1 E.1, fun x c q r => E.2 _ _ (F.2 x c q r)⟩
theorem own_Lo.wr (F : own_Lo h h' u) (W : Wr h' h'' a sl v) (q : u ≤ a) : own_Lo h h'' u := by
  refine ⟨Nat.le_trans F.1 (Nat.le_of_eq W.size.symm), fun x c r z => ?_⟩
  obtain ⟨c', e1, -, -, -, e5, -⟩ := wr_at W (F.2 x c r z)
  rw [e1, e5 (fun y => by subst y; exact absurd z (Nat.not_lt.mpr q))]
theorem own_Lo.keep (F : own_Lo h h' u) (K : Keep h' h'' ws) (q : ∀ x ∈ ws, u ≤ x) : own_Lo h h'' u :=
  ⟨Nat.le_trans F.1 K.1, fun x c r z => K.2.1 x c (F.2 x c r z) (fun y => absurd z (Nat.not_lt.mpr (q x y)))⟩
theorem own_Lo.trans (F : own_Lo h h' u) (G : own_Lo h' h'' u) : own_Lo h h'' u := ⟨Nat.le_trans F.1 G.1, fun x c r z => G.2 x c (F.2 x c r z) z⟩
theorem own_A.lo {ty : FieldType} {n : Int32} {f : Nat → Value} (F : own_A Z h a ty n f) (G : own_Lo h h' u) (q : a < u) : own_A Z h' a ty n f := by obtain ⟨c, A, r⟩ := F; exact ⟨c, ⟨G.2 _ _ A.1 q, A.2⟩, r⟩
end
theorem own_skA {h h' : Heap} {a : Addr} {C n d : String} {v : Value} {ty : FieldType} {k : Int32} {f : Nat → Value} (F : Sta Z h C n d v) (K : Keep h h' [a]) (A : own_A Z h a ty k f) : Sta Z h' C n d v := by
  obtain ⟨cf, i, k, fl, st, cell, h1, h2, h3, h4, h5, h6, h7⟩ := F
  obtain ⟨cl, A, -⟩ := A
  have ne : st ≠ a := fun q => by
    subst q
    cases h5.symm.trans A.1
    rw [A.plain] at h6; cases h6
  exact ⟨cf, i, k, fl, st, cell, h1, h2, h3, h4, K.2.1 _ _ h5 (ninS ne nin0), h6, h7⟩
end OwnMore
abbrev oI (z : Int32) : Slot := .val (.int z)
theorem own_tag (t : Int32) (h0 : 0 ≤ t.toInt) (h1 : t.toInt ≤ 255) (h : (t &&& 31).toInt = 31) : 0 ≤ (t ^^^ 1).toInt ∧ (t ^^^ 1).toInt ≤ 255 ∧ ¬ ((t ^^^ 1) &&& 31).toInt = 31 := by
  have e : t = Int32.ofNat t.toInt.toNat := by
    apply Int32.toInt_inj.mp
    rw [Int32.toInt_ofNat_small (by omega)]; omega
  have all : ∀ n : Fin 256, (Int32.ofNat n.val &&& 31).toInt = 31 → 0 ≤ (Int32.ofNat n.val ^^^ 1).toInt ∧ (Int32.ofNat n.val ^^^ 1).toInt ≤ 255 ∧ ¬ ((Int32.ofNat n.val ^^^ 1) &&& 31).toInt = 31 := by decide +kernel
  have q := all ⟨t.toInt.toNat, by omega⟩
  simp only at q
  rw [← e] at q
  exact q h
theorem own_back (t b : Int32) (h0 : 0 ≤ t.toInt) (h1 : t.toInt ≤ 255) (hb : (b.toInt - t.toInt) % 256 = 0) : b &&& 255 = t := by
  have q := c_mask b 255 8 (by decide) (by decide)
  apply Int32.toInt_inj.mp
  omega
theorem d11_0 : decode jdk_29_method_69_code 0 = .ok (.iload_n 0, 1) := by decide +kernel
theorem d11_1 : decode jdk_29_method_69_code 1 = .ok (.iload_n 1, 1) := by decide +kernel
theorem d11_2 : decode jdk_29_method_69_code 2 = .ok (.if_icmp .gt 7, 3) := by decide +kernel
theorem d11_5 : decode jdk_29_method_69_code 5 = .ok (.iload_n 0, 1) := by decide +kernel
theorem d11_6 : decode jdk_29_method_69_code 6 = .ok (.goto 4, 3) := by decide +kernel
theorem d11_9 : decode jdk_29_method_69_code 9 = .ok (.iload_n 1, 1) := by decide +kernel
theorem d11_10 : decode jdk_29_method_69_code 10 = .ok (.ireturn, 1) := by decide +kernel
theorem pf_11 : plainFor (⟨"java/lang/Math", "min", "(II)I"⟩ : MethodName) = true := by decide +kernel
theorem ef_min (m : MethodId) (q1 : Int32) (q2 : Int32) : entryFrame m #[(.int q1), (.int q2)] 2 = mkF m 0 #[oI q1, oI q2] [] := by first | (simp [entryFrame, mkF, argsToLocals, Value.category, maxLocals]; done) | rfl
def Q_min (Z : State) (q1 : Int32) (q2 : Int32) (h0 : Heap) (n0 : Nat) : Option Value → Heap → List Loc → Prop := fun v h L => (∃ z : Int32, v = some (.int z) ∧ (z.toInt ≤ q1.toInt ∧ z.toInt ≤ q2.toInt ∧ (z.toInt = q1.toInt ∨ z.toInt = q2.toInt))) ∧ Fr n0 L ∧ h = h0
set_option maxRecDepth 65536 in
set_option maxHeartbeats 40000000 in
theorem rm_min (l : Launch) (Z : State) (a0 : Array Value) (hw : ∀ d ∈ tables_1, d.before a0 Z = true) (ws : List Jvm.Cond) (q1 : Int32) (q2 : Int32) (h0 : Heap) (n0 : Nat) (Z0 : n0 ≤ h0.size)  :
    MetFree l (⟨"java/lang/Math", "min", "(II)I"⟩ : MethodName) (head1 (Jvm.Cond.code (⟨"java/lang/Math", "min", "(II)I"⟩ : MethodName) jdk_29_method_69_code 2 (some .int) :: ws) ({ frames := 0, cells := 0, slots := 0, locals := 0 } : Room)) (fun aX U => aX = #[(.int q1), (.int q2)] ∧ Z.Warmed39 U.vm ∧ U.heap = h0) (fun _ _ _ _ _ => True) (fun _ U o U' => ∃ v L, o = .returned v ∧ (Q_min Z q1 q2 h0 n0) v U'.heap L ∧ FrameEnd U o U' L ({ frames := 0, cells := 0, slots := 0, locals := 0 } : Room).cells ({ frames := 0, cells := 0, slots := 0, locals := 0 } : Room).slots) := by
  refine own_met (Q := (Q_min Z q1 q2 h0 n0)) pf_11 (fun m => ef_min m q1 q2) ?_
  intro p e s m below meth cD s₁ hx hby hml hret hlk hZ hown hnm X0 e0 hs0
  have hown : s.vm.findClass "java/lang/Math" = some m.cls := hown
  have N0 := Fr.nil n0
  refine own_st (fr' := (mkF m 1 #[oI q1, oI q2] [(.int q1)])) (fun t k => XS.iloadN X0.here hx rfl (hb hby d11_0) rfl  k) ?_
  refine own_st (fr' := (mkF m 2 #[oI q1, oI q2] [(.int q2), (.int q1)])) (fun t k => XS.iloadN X0.here hx rfl (hb hby d11_1) rfl  k) ?_
  by_cases hc1 : q2.toInt < q1.toInt
  · refine own_st (fr' := (mkF m 9 #[oI q1, oI q2] [])) (fun t k => XS.icmpYes X0.here hx rfl (pc0 := 2) (pc' := 9) rfl (hb hby d11_2) rfl (own_tlt (x := q2) (y := q1) hc1).2.2.1 (by decide) (by decide) k) ?_
    refine own_st (fr' := (mkF m 10 #[oI q1, oI q2] [(.int q2)])) (fun t k => XS.iloadN X0.here hx rfl (hb hby d11_9) rfl  k) ?_
    exact own_retI X0 hx hlk hret (hb hby d11_10) (by decide) (by decide) (⟨⟨_, rfl, by omega⟩, N0, e0⟩)
  · refine own_st (fr' := (mkF m 5 #[oI q1, oI q2] [])) (fun t k => XS.icmpNo X0.here hx rfl (hb hby d11_2) rfl (own_flt (x := q2) (y := q1) hc1).2.2.1 k) ?_
    refine own_st (fr' := (mkF m 6 #[oI q1, oI q2] [(.int q1)])) (fun t k => XS.iloadN X0.here hx rfl (hb hby d11_5) rfl  k) ?_
    refine own_st (fr' := (mkF m 10 #[oI q1, oI q2] [(.int q1)])) (fun t k => XS.goto X0.here hx rfl (pc0 := 6) (pc' := 10) rfl (hb hby d11_6) (by decide) (by decide) k) ?_
    exact own_retI X0 hx hlk hret (hb hby d11_10) (by decide) (by decide) (⟨⟨_, rfl, by omega⟩, N0, e0⟩)
theorem d10_0 : decode jdk_65_method_131_code 0 = .ok (.iload_n 1, 1) := by decide +kernel
theorem d10_1 : decode jdk_65_method_131_code 1 = .ok (.iload_n 0, 1) := by decide +kernel
theorem d10_2 : decode jdk_65_method_131_code 2 = .ok (.if_icmp .ge 35, 3) := by decide +kernel
theorem d10_37 : decode jdk_65_method_131_code 37 = .ok (.return_, 1) := by decide +kernel
theorem pn_0 : plainName "java/util/Arrays" = true := by first | (simp [plainName, overriddenIn]; done) | decide +kernel
theorem ef_chk (m : MethodId) (fr : Int32) (to : Int32) : entryFrame m #[(.int fr), (.int to)] 2 = mkF m 0 #[oI fr, oI to] [] := by first | (simp [entryFrame, mkF, argsToLocals, Value.category, maxLocals]; done) | rfl
def Q_chk (Z : State) (fr : Int32) (to : Int32) (h0 : Heap) (n0 : Nat) : Option Value → Heap → List Loc → Prop := fun v h L => v = none ∧ Fr n0 L ∧ h = h0
set_option maxRecDepth 65536 in
set_option maxHeartbeats 40000000 in
theorem rm_chk (l : Launch) (Z : State) (a0 : Array Value) (hw : ∀ d ∈ tables_1, d.before a0 Z = true) (ws : List Jvm.Cond) (fr : Int32) (to : Int32) (h0 : Heap) (n0 : Nat) (Z0 : n0 ≤ h0.size) (hft : fr.toInt ≤ to.toInt) :
    MetFree l (⟨"java/util/Arrays", "checkLength", "(II)V"⟩ : MethodName) (head1 (Jvm.Cond.code (⟨"java/util/Arrays", "checkLength", "(II)V"⟩ : MethodName) jdk_65_method_131_code 2 none :: ws) ({ frames := 0, cells := 0, slots := 0, locals := 0 } : Room)) (fun aX U => aX = #[(.int fr), (.int to)] ∧ Z.Warmed39 U.vm ∧ U.heap = h0) (fun _ _ _ _ _ => True) (fun _ U o U' => ∃ v L, o = .returned v ∧ (Q_chk Z fr to h0 n0) v U'.heap L ∧ FrameEnd U o U' L ({ frames := 0, cells := 0, slots := 0, locals := 0 } : Room).cells ({ frames := 0, cells := 0, slots := 0, locals := 0 } : Room).slots) := by
  refine own_met (Q := (Q_chk Z fr to h0 n0)) (plainFor_of_name (x := (⟨"java/util/Arrays", "checkLength", "(II)V"⟩ : MethodName)) pn_0) (fun m => ef_chk m fr to) ?_
  intro p e s m below meth cD s₁ hx hby hml hret hlk hZ hown hnm X0 e0 hs0
  have hown : s.vm.findClass "java/util/Arrays" = some m.cls := hown
  have N0 := Fr.nil n0
  refine own_st (fr' := (mkF m 1 #[oI fr, oI to] [(.int to)])) (fun t k => XS.iloadN X0.here hx rfl (hb hby d10_0) rfl  k) ?_
  refine own_st (fr' := (mkF m 2 #[oI fr, oI to] [(.int fr), (.int to)])) (fun t k => XS.iloadN X0.here hx rfl (hb hby d10_1) rfl  k) ?_
  refine own_st (fr' := (mkF m 37 #[oI fr, oI to] [])) (fun t k => XS.icmpYes X0.here hx rfl (pc0 := 2) (pc' := 37) rfl (hb hby d10_2) rfl (own_flt (x := to) (y := fr) (show ¬ to.toInt < fr.toInt from by omega)).2.1 (by decide) (by decide) k) ?_
  exact own_retV X0 hx hlk hret (hb hby d10_37) (by decide) (by decide) (⟨rfl, N0, e0⟩)
theorem pd_0 : parseMethodDescriptor "(II)V" = some ⟨[.int, .int], none⟩ := by decide +kernel
theorem pd_1 : parseMethodDescriptor "(II)I" = some ⟨[.int, .int], some .int⟩ := by decide +kernel
theorem d9_0 : decode jdk_65_method_133_code 0 = .ok (.iload_n 1, 1) := by decide +kernel
theorem d9_1 : decode jdk_65_method_133_code 1 = .ok (.iload_n 2, 1) := by decide +kernel
theorem d9_2 : decode jdk_65_method_133_code 2 = .ok (.invokestatic 343, 3) := by decide +kernel
theorem d9_5 : decode jdk_65_method_133_code 5 = .ok (.iload_n 2, 1) := by decide +kernel
theorem d9_6 : decode jdk_65_method_133_code 6 = .ok (.iload_n 1, 1) := by decide +kernel
theorem d9_7 : decode jdk_65_method_133_code 7 = .ok (.isub, 1) := by decide +kernel
theorem d9_8 : decode jdk_65_method_133_code 8 = .ok (.istore_n 3, 1) := by decide +kernel
theorem d9_9 : decode jdk_65_method_133_code 9 = .ok (.iload_n 3, 1) := by decide +kernel
theorem d9_10 : decode jdk_65_method_133_code 10 = .ok (.newarray .byte, 2) := by decide +kernel
theorem d9_12 : decode jdk_65_method_133_code 12 = .ok (.astore 4, 2) := by decide +kernel
theorem d9_14 : decode jdk_65_method_133_code 14 = .ok (.aload_n 0, 1) := by decide +kernel
theorem d9_15 : decode jdk_65_method_133_code 15 = .ok (.iload_n 1, 1) := by decide +kernel
theorem d9_16 : decode jdk_65_method_133_code 16 = .ok (.aload 4, 2) := by decide +kernel
theorem d9_18 : decode jdk_65_method_133_code 18 = .ok (.iconst 0, 1) := by decide +kernel
theorem d9_19 : decode jdk_65_method_133_code 19 = .ok (.aload_n 0, 1) := by decide +kernel
theorem d9_20 : decode jdk_65_method_133_code 20 = .ok (.arraylength, 1) := by decide +kernel
theorem d9_21 : decode jdk_65_method_133_code 21 = .ok (.iload_n 1, 1) := by decide +kernel
theorem d9_22 : decode jdk_65_method_133_code 22 = .ok (.isub, 1) := by decide +kernel
theorem d9_23 : decode jdk_65_method_133_code 23 = .ok (.iload_n 3, 1) := by decide +kernel
theorem d9_24 : decode jdk_65_method_133_code 24 = .ok (.invokestatic 304, 3) := by decide +kernel
theorem d9_27 : decode jdk_65_method_133_code 27 = .ok (.invokestatic 150, 3) := by decide +kernel
theorem d9_30 : decode jdk_65_method_133_code 30 = .ok (.aload 4, 2) := by decide +kernel
theorem d9_32 : decode jdk_65_method_133_code 32 = .ok (.areturn, 1) := by decide +kernel
theorem ef_crb (m : MethodId) (a : Addr) (fr : Int32) (to : Int32) : entryFrame m #[(.ref a), (.int fr), (.int to)] 5 = mkF m 0 #[.val (.ref a), oI fr, oI to, .unset, .unset] [] := by first | (simp [entryFrame, mkF, argsToLocals, Value.category, maxLocals]; done) | rfl
def Q_crb (Z : State) (a : Addr) (fr : Int32) (to : Int32) (N : Int32) (f : Nat → Value) (h0 : Heap) (n0 : Nat) : Option Value → Heap → List Loc → Prop := fun v h L => (∃ (r : Addr) (g : Nat → Value) (nl : Int32), v = some (.ref r) ∧ h0.size ≤ r ∧ nl.toInt = to.toInt - fr.toInt ∧ own_A Z h r .byte nl g ∧ ∀ i : Nat, (i : Int) < to.toInt - fr.toInt → g i = f (fr.toInt.toNat + i)) ∧ Fr n0 L ∧ Keep h0 h []
set_option maxRecDepth 65536 in
set_option maxHeartbeats 40000000 in
theorem rm_crb (l : Launch) (Z : State) (a0 : Array Value) (hw : ∀ d ∈ tables_1, d.before a0 Z = true) (ws : List Jvm.Cond) (a : Addr) (fr : Int32) (to : Int32) (N : Int32) (f : Nat → Value) (h0 : Heap) (n0 : Nat) (Z0 : n0 ≤ h0.size) (VA : own_A Z h0 a .byte N f) (EA : Exa Z h0 a "[B") (hft : 0 ≤ fr.toInt ∧ fr.toInt ≤ to.toInt ∧ to.toInt ≤ N.toInt) (hN : N.toInt ≤ 304) :
    MetFree l (⟨"java/util/Arrays", "copyOfRangeByte", "([BII)[B"⟩ : MethodName) (head1 (Jvm.Cond.code (⟨"java/util/Arrays", "copyOfRangeByte", "([BII)[B"⟩ : MethodName) jdk_65_method_133_code 5 (some (.array .byte)) :: ws) ({ frames := 1, cells := 1, slots := 304, locals := 60 } : Room)) (fun aX U => aX = #[(.ref a), (.int fr), (.int to)] ∧ Z.Warmed39 U.vm ∧ U.heap = h0) (fun _ _ _ _ _ => True) (fun _ U o U' => ∃ v L, o = .returned v ∧ (Q_crb Z a fr to N f h0 n0) v U'.heap L ∧ FrameEnd U o U' L ({ frames := 1, cells := 1, slots := 304, locals := 60 } : Room).cells ({ frames := 1, cells := 1, slots := 304, locals := 60 } : Room).slots) := by
  refine own_met (Q := (Q_crb Z a fr to N f h0 n0)) (plainFor_of_name (x := (⟨"java/util/Arrays", "copyOfRangeByte", "([BII)[B"⟩ : MethodName)) pn_0) (fun m => ef_crb m a fr to) ?_
  intro p e s m below meth cD s₁ hx hby hml hret hlk hZ hown hnm X0 e0 hs0
  have hown : s.vm.findClass "java/util/Arrays" = some m.cls := hown
  have N0 := Fr.nil n0
  refine own_st (fr' := (mkF m 1 #[.val (.ref a), oI fr, oI to, .unset, .unset] [(.int fr)])) (fun t k => XS.iloadN X0.here hx rfl (hb hby d9_0) rfl  k) ?_
  refine own_st (fr' := (mkF m 2 #[.val (.ref a), oI fr, oI to, .unset, .unset] [(.int to), (.int fr)])) (fun t k => XS.iloadN X0.here hx rfl (hb hby d9_1) rfl  k) ?_
  refine own_callS X0 hx hZ (y := (⟨"java/util/Arrays", "checkLength", "(II)V"⟩ : MethodName)) hown (hw _ (List.mem_of_getElem? (i := 45) rfl)) (hw _ (List.mem_of_getElem? (i := 46) rfl)) (hw _ (List.mem_of_getElem? (i := 40) rfl)) (hw _ (List.mem_of_getElem? (i := 47) rfl)) (by decide) (argsL := [(.int fr), (.int to)]) (rest := []) (W := 0) (rm_chk l Z a0 hw [] fr to h0 n0 Z0 hft.2.1) e0 (by rw [hml]; rfl) (lenOf pd_0 rfl) rfl (Nat.le_of_eq rfl) (hb hby d9_2) (by decide) (by decide) (by decide) (by decide) ?_
  intro v2 T2 L2 X2 hQ2
  obtain ⟨rfl, Nq2, eq2⟩ := hQ2
  have N2 := Fr.app N0 Nq2
  refine own_st (fr' := (mkF m 6 #[.val (.ref a), oI fr, oI to, .unset, .unset] [(.int to)])) (fun t k => XS.iloadN X2.here hx rfl (hb hby d9_5) rfl  k) ?_
  refine own_st (fr' := (mkF m 7 #[.val (.ref a), oI fr, oI to, .unset, .unset] [(.int fr), (.int to)])) (fun t k => XS.iloadN X2.here hx rfl (hb hby d9_6) rfl  k) ?_
  refine own_st (fr' := (mkF m 8 #[.val (.ref a), oI fr, oI to, .unset, .unset] [(.int (to - fr))])) (fun t k => XS.isub X2.here hx rfl (hb hby d9_7) rfl k) ?_
  refine own_st (fr' := (mkF m 9 #[.val (.ref a), oI fr, oI to, .val (.int (to - fr)), .unset] [])) (fun t k => XS.istoreN X2.here hx rfl (hb hby d9_8) rfl  (l' := #[.val (.ref a), oI fr, oI to, .val (.int (to - fr)), .unset]) rfl k) ?_
  have s1 := c_isub to fr
  have s2 := rng32 (to - fr)
  generalize (to - fr) = nl at s1 s2 ⊢
  have hnl : nl.toInt = to.toInt - fr.toInt := by omega
  refine own_st (fr' := (mkF m 10 #[.val (.ref a), oI fr, oI to, oI nl, .unset] [(.int nl)])) (fun t k => XS.iloadN X2.here hx rfl (hb hby d9_9) rfl  k) ?_
  refine own_newarrE X2 hx hZ (hw _ (List.mem_of_getElem? (i := 7) rfl)) eq2 (hb hby d9_10) (by omega) (cap := 304) (by omega) (by decide) (by decide) (by decide) rfl (C := "[B") rfl ?_
  intro T3 h3 b3 g3 X3 e3 E3 VA3 EX3
  have V3 := own_B.new VA3
  have lt3_a : a < b3 := Nat.lt_of_lt_of_eq VA.lt g3.symm
  have ne3_a : a ≠ b3 := Nat.ne_of_lt lt3_a
  have ge_b3 : n0 ≤ b3 := Nat.le_trans Z0 (Nat.le_of_eq g3.symm)
  have sz_b3 : h0.size ≤ b3 := Nat.le_trans (Nat.le_refl _) (Nat.le_of_eq g3.symm)
  refine own_st (fr' := (mkF m 14 #[.val (.ref a), oI fr, oI to, oI nl, .val (.ref b3)] [])) (fun t k => XS.astore X3.here hx rfl (hb hby d9_12) rfl rfl (l' := #[.val (.ref a), oI fr, oI to, oI nl, .val (.ref b3)]) rfl k) ?_
  refine own_st (fr' := (mkF m 15 #[.val (.ref a), oI fr, oI to, oI nl, .val (.ref b3)] [(.ref a)])) (fun t k => XS.aloadN X3.here hx rfl (hb hby d9_14) rfl rfl k) ?_
  refine own_st (fr' := (mkF m 16 #[.val (.ref a), oI fr, oI to, oI nl, .val (.ref b3)] [(.int fr), (.ref a)])) (fun t k => XS.iloadN X3.here hx rfl (hb hby d9_15) rfl  k) ?_
  refine own_st (fr' := (mkF m 18 #[.val (.ref a), oI fr, oI to, oI nl, .val (.ref b3)] [(.ref b3), (.int fr), (.ref a)])) (fun t k => XS.aload X3.here hx rfl (hb hby d9_16) rfl rfl k) ?_
  refine own_st (fr' := (mkF m 19 #[.val (.ref a), oI fr, oI to, oI nl, .val (.ref b3)] [(.int 0), (.ref b3), (.int fr), (.ref a)])) (fun t k => XS.iconst X3.here hx rfl (hb hby d9_18) k) ?_
  refine own_st (fr' := (mkF m 20 #[.val (.ref a), oI fr, oI to, oI nl, .val (.ref b3)] [(.ref a), (.int 0), (.ref b3), (.int fr), (.ref a)])) (fun t k => XS.aloadN X3.here hx rfl (hb hby d9_19) rfl rfl k) ?_
  refine own_alen X3 hx hZ e3 (VA.ext E3) (hb hby d9_20) ?_
  refine own_st (fr' := (mkF m 22 #[.val (.ref a), oI fr, oI to, oI nl, .val (.ref b3)] [(.int fr), (.int N), (.int 0), (.ref b3), (.int fr), (.ref a)])) (fun t k => XS.iloadN X3.here hx rfl (hb hby d9_21) rfl  k) ?_
  refine own_st (fr' := (mkF m 23 #[.val (.ref a), oI fr, oI to, oI nl, .val (.ref b3)] [(.int (N - fr)), (.int 0), (.ref b3), (.int fr), (.ref a)])) (fun t k => XS.isub X3.here hx rfl (hb hby d9_22) rfl k) ?_
  refine own_st (fr' := (mkF m 24 #[.val (.ref a), oI fr, oI to, oI nl, .val (.ref b3)] [(.int nl), (.int (N - fr)), (.int 0), (.ref b3), (.int fr), (.ref a)])) (fun t k => XS.iloadN X3.here hx rfl (hb hby d9_23) rfl  k) ?_
  have s3 := c_isub N fr
  have s4 := rng32 (N - fr)
  refine own_callS X3 hx hZ (y := (⟨"java/lang/Math", "min", "(II)I"⟩ : MethodName)) hown (hw _ (List.mem_of_getElem? (i := 48) rfl)) (hw _ (List.mem_of_getElem? (i := 49) rfl)) (hw _ (List.mem_of_getElem? (i := 50) rfl)) (hw _ (List.mem_of_getElem? (i := 51) rfl)) (by decide) (argsL := [(.int (N - fr)), (.int nl)]) (rest := [(.int 0), (.ref b3), (.int fr), (.ref a)]) (W := 4) (rm_min l Z a0 hw [] (N - fr) nl h3 n0 (Nat.le_trans Z0 E3.1) ) e3 (by rw [hml]; rfl) (lenOf pd_1 rfl) rfl (Nat.le_of_eq rfl) (hb hby d9_24) (by decide) (by decide) (by decide) (by decide) ?_
  intro v4 T4 L4 X4 hQ4
  obtain ⟨⟨mn, rfl, hmn⟩, Nq4, eq4⟩ := hQ4
  have N4 := Fr.app N2 Nq4
  have hm : mn.toInt = nl.toInt := by omega
  refine own_copy X4 hx hZ hown (hw _ (List.mem_of_getElem? (i := 52) rfl)) (hw _ (List.mem_of_getElem? (i := 55) rfl)) (hw _ (List.mem_of_getElem? (i := 53) rfl)) (hw _ (List.mem_of_getElem? (i := 54) rfl)) eq4 (VA.ext E3) VA3 rfl (by omega) (by decide) (by omega) (by omega) (by show (0 : Int) + _ ≤ _; omega) N4 ge_b3 (by rw [hml]; rfl) (hb hby d9_27) (by decide) (W := 0) (Nat.le_of_eq rfl) (by show 0 + (nativeFrameWords "java/lang/System" "arraycopy" 5 + 11) ≤ 60; decide) ?_
  intro T5 h5 L5 X5 e5 N5 K5 V5
  refine own_st (fr' := (mkF m 32 #[.val (.ref a), oI fr, oI to, oI nl, .val (.ref b3)] [(.ref b3)])) (fun t k => XS.aload X5.here hx rfl (hb hby d9_30) rfl rfl k) ?_
  exact own_retA X5 hx hlk hret rfl rfl (hb hby d9_32) (by decide) (by decide) (by rw [e5]; exact ⟨⟨b3, _, nl, rfl, sz_b3, hnl, V5, fun i hi => by show (if (0 : Nat) ≤ i ∧ i < 0 + mn.toInt.toNat then _ else _) = _; rw [if_pos ⟨by omega, by omega⟩]; rfl⟩, N5, (Keep.trans (Keep.ext (Keep.refl h0 []) E3) K5 (allS (Or.inr sz_b3) all0))⟩)
theorem pd_2 : parseMethodDescriptor "([BII)[B" = some ⟨[(.array .byte), .int, .int], some (.array .byte)⟩ := by decide +kernel
theorem d8_0 : decode jdk_65_method_132_code 0 = .ok (.iload_n 1, 1) := by decide +kernel
theorem d8_1 : decode jdk_65_method_132_code 1 = .ok (.ifCond .ne 9, 3) := by decide +kernel
theorem d8_10 : decode jdk_65_method_132_code 10 = .ok (.aload_n 0, 1) := by decide +kernel
theorem d8_11 : decode jdk_65_method_132_code 11 = .ok (.iload_n 1, 1) := by decide +kernel
theorem d8_12 : decode jdk_65_method_132_code 12 = .ok (.iload_n 2, 1) := by decide +kernel
theorem d8_13 : decode jdk_65_method_132_code 13 = .ok (.invokestatic 339, 3) := by decide +kernel
theorem d8_16 : decode jdk_65_method_132_code 16 = .ok (.areturn, 1) := by decide +kernel
theorem ef_cr1 (m : MethodId) (a : Addr) (fr : Int32) (to : Int32) : entryFrame m #[(.ref a), (.int fr), (.int to)] 3 = mkF m 0 #[.val (.ref a), oI fr, oI to] [] := by first | (simp [entryFrame, mkF, argsToLocals, Value.category, maxLocals]; done) | rfl
def Q_cr1 (Z : State) (a : Addr) (fr : Int32) (to : Int32) (N : Int32) (f : Nat → Value) (h0 : Heap) (n0 : Nat) : Option Value → Heap → List Loc → Prop := fun v h L => (∃ (r : Addr) (g : Nat → Value) (nl : Int32), v = some (.ref r) ∧ h0.size ≤ r ∧ nl.toInt = to.toInt - fr.toInt ∧ own_A Z h r .byte nl g ∧ ∀ i : Nat, (i : Int) < to.toInt - fr.toInt → g i = f (fr.toInt.toNat + i)) ∧ Fr n0 L ∧ Keep h0 h []
set_option maxRecDepth 65536 in
set_option maxHeartbeats 40000000 in
theorem rm_cr1 (l : Launch) (Z : State) (a0 : Array Value) (hw : ∀ d ∈ tables_1, d.before a0 Z = true) (ws : List Jvm.Cond) (a : Addr) (fr : Int32) (to : Int32) (N : Int32) (f : Nat → Value) (h0 : Heap) (n0 : Nat) (Z0 : n0 ≤ h0.size) (VA : own_A Z h0 a .byte N f) (EA : Exa Z h0 a "[B") (hft : 0 ≤ fr.toInt ∧ fr.toInt ≤ to.toInt ∧ to.toInt ≤ N.toInt) (hN : N.toInt ≤ 304) (hf0 : ¬ fr.toInt = 0) :
    MetFree l (⟨"java/util/Arrays", "copyOfRange", "([BII)[B"⟩ : MethodName) (head1 (Jvm.Cond.code (⟨"java/util/Arrays", "copyOfRange", "([BII)[B"⟩ : MethodName) jdk_65_method_132_code 3 (some (.array .byte)) :: ws) ({ frames := 2, cells := 1, slots := 304, locals := 80 } : Room)) (fun aX U => aX = #[(.ref a), (.int fr), (.int to)] ∧ Z.Warmed39 U.vm ∧ U.heap = h0) (fun _ _ _ _ _ => True) (fun _ U o U' => ∃ v L, o = .returned v ∧ (Q_cr1 Z a fr to N f h0 n0) v U'.heap L ∧ FrameEnd U o U' L ({ frames := 2, cells := 1, slots := 304, locals := 80 } : Room).cells ({ frames := 2, cells := 1, slots := 304, locals := 80 } : Room).slots) := by
  refine own_met (Q := (Q_cr1 Z a fr to N f h0 n0)) (plainFor_of_name (x := (⟨"java/util/Arrays", "copyOfRange", "([BII)[B"⟩ : MethodName)) pn_0) (fun m => ef_cr1 m a fr to) ?_
  intro p e s m below meth cD s₁ hx hby hml hret hlk hZ hown hnm X0 e0 hs0
  have hown : s.vm.findClass "java/util/Arrays" = some m.cls := hown
  have N0 := Fr.nil n0
  refine own_st (fr' := (mkF m 1 #[.val (.ref a), oI fr, oI to] [(.int fr)])) (fun t k => XS.iloadN X0.here hx rfl (hb hby d8_0) rfl  k) ?_
  refine own_st (fr' := (mkF m 10 #[.val (.ref a), oI fr, oI to] [])) (fun t k => XS.ifYes X0.here hx rfl (pc0 := 1) (pc' := 10) rfl (hb hby d8_1) rfl ((if0 _ _).trans (own_feq (x := fr) (y := (0 : Int32)) (show ¬ fr.toInt = 0 from hf0)).2) (by decide) (by decide) k) ?_
  refine own_st (fr' := (mkF m 11 #[.val (.ref a), oI fr, oI to] [(.ref a)])) (fun t k => XS.aloadN X0.here hx rfl (hb hby d8_10) rfl rfl k) ?_
  refine own_st (fr' := (mkF m 12 #[.val (.ref a), oI fr, oI to] [(.int fr), (.ref a)])) (fun t k => XS.iloadN X0.here hx rfl (hb hby d8_11) rfl  k) ?_
  refine own_st (fr' := (mkF m 13 #[.val (.ref a), oI fr, oI to] [(.int to), (.int fr), (.ref a)])) (fun t k => XS.iloadN X0.here hx rfl (hb hby d8_12) rfl  k) ?_
  refine own_callS X0 hx hZ (y := (⟨"java/util/Arrays", "copyOfRangeByte", "([BII)[B"⟩ : MethodName)) hown (hw _ (List.mem_of_getElem? (i := 42) rfl)) (hw _ (List.mem_of_getElem? (i := 43) rfl)) (hw _ (List.mem_of_getElem? (i := 40) rfl)) (hw _ (List.mem_of_getElem? (i := 44) rfl)) (by decide) (argsL := [(.ref a), (.int fr), (.int to)]) (rest := []) (W := 0) (rm_crb l Z a0 hw [] a fr to N f h0 n0 Z0 VA EA hft hN) e0 (by rw [hml]; rfl) (lenOf pd_2 rfl) rfl (Nat.le_of_eq rfl) (hb hby d8_13) (by decide) (by decide) (by decide) (by decide) ?_
  intro v6 T6 L6 X6 hQ6
  obtain ⟨⟨r, g, nl, rfl, hr, hnl, VR, hg⟩, Nq6, K6⟩ := hQ6
  have N6 := Fr.app N0 Nq6
  exact own_retA X6 hx hlk hret rfl rfl (hb hby d8_16) (by decide) (by decide) (⟨⟨r, g, nl, rfl, hr, hnl, VR, hg⟩, N6, K6⟩)
theorem d8_4 : decode jdk_65_method_132_code 4 = .ok (.iload_n 2, 1) := by decide +kernel
theorem d8_5 : decode jdk_65_method_132_code 5 = .ok (.aload_n 0, 1) := by decide +kernel
theorem d8_6 : decode jdk_65_method_132_code 6 = .ok (.arraylength, 1) := by decide +kernel
theorem d8_7 : decode jdk_65_method_132_code 7 = .ok (.if_icmp .eq 10, 3) := by decide +kernel
theorem d8_17 : decode jdk_65_method_132_code 17 = .ok (.aload_n 0, 1) := by decide +kernel
theorem d8_18 : decode jdk_65_method_132_code 18 = .ok (.invokevirtual 310, 3) := by decide +kernel
theorem d8_21 : decode jdk_65_method_132_code 21 = .ok (.checkcast 311, 3) := by decide +kernel
theorem d8_24 : decode jdk_65_method_132_code 24 = .ok (.areturn, 1) := by decide +kernel
theorem ef_cr0 (m : MethodId) (a : Addr) (N : Int32) : entryFrame m #[(.ref a), (.int 0), (.int N)] 3 = mkF m 0 #[.val (.ref a), oI 0, oI N] [] := by first | (simp [entryFrame, mkF, argsToLocals, Value.category, maxLocals]; done) | rfl
def Q_cr0 (Z : State) (a : Addr) (N : Int32) (f : Nat → Value) (h0 : Heap) (n0 : Nat) : Option Value → Heap → List Loc → Prop := fun v h L => (∃ r : Addr, v = some (.ref r) ∧ h0.size ≤ r ∧ own_A Z h r .byte N f) ∧ Fr n0 L ∧ Keep h0 h []
set_option maxRecDepth 65536 in
set_option maxHeartbeats 40000000 in
theorem rm_cr0 (l : Launch) (Z : State) (a0 : Array Value) (hw : ∀ d ∈ tables_1, d.before a0 Z = true) (ws : List Jvm.Cond) (a : Addr) (N : Int32) (f : Nat → Value) (h0 : Heap) (n0 : Nat) (Z0 : n0 ≤ h0.size) (VA : own_A Z h0 a .byte N f) (EA : Exa Z h0 a "[B") (hN : N.toInt ≤ 304) :
    MetFree l (⟨"java/util/Arrays", "copyOfRange", "([BII)[B"⟩ : MethodName) (head1 (Jvm.Cond.code (⟨"java/util/Arrays", "copyOfRange", "([BII)[B"⟩ : MethodName) jdk_65_method_132_code 3 (some (.array .byte)) :: ws) ({ frames := 1, cells := 1, slots := 304, locals := 14 } : Room)) (fun aX U => aX = #[(.ref a), (.int 0), (.int N)] ∧ Z.Warmed39 U.vm ∧ U.heap = h0) (fun _ _ _ _ _ => True) (fun _ U o U' => ∃ v L, o = .returned v ∧ (Q_cr0 Z a N f h0 n0) v U'.heap L ∧ FrameEnd U o U' L ({ frames := 1, cells := 1, slots := 304, locals := 14 } : Room).cells ({ frames := 1, cells := 1, slots := 304, locals := 14 } : Room).slots) := by
  refine own_met (Q := (Q_cr0 Z a N f h0 n0)) (plainFor_of_name (x := (⟨"java/util/Arrays", "copyOfRange", "([BII)[B"⟩ : MethodName)) pn_0) (fun m => ef_cr0 m a N) ?_
  intro p e s m below meth cD s₁ hx hby hml hret hlk hZ hown hnm X0 e0 hs0
  have hown : s.vm.findClass "java/util/Arrays" = some m.cls := hown
  have N0 := Fr.nil n0
  refine own_st (fr' := (mkF m 1 #[.val (.ref a), oI 0, oI N] [(.int 0)])) (fun t k => XS.iloadN X0.here hx rfl (hb hby d8_0) rfl  k) ?_
  refine own_st (fr' := (mkF m 4 #[.val (.ref a), oI 0, oI N] [])) (fun t k => XS.ifNo X0.here hx rfl (hb hby d8_1) rfl ((if0 _ _).trans (own_teq (x := (0 : Int32)) (y := (0 : Int32)) (show 0 = 0 from by decide)).2) k) ?_
  refine own_st (fr' := (mkF m 5 #[.val (.ref a), oI 0, oI N] [(.int N)])) (fun t k => XS.iloadN X0.here hx rfl (hb hby d8_4) rfl  k) ?_
  refine own_st (fr' := (mkF m 6 #[.val (.ref a), oI 0, oI N] [(.ref a), (.int N)])) (fun t k => XS.aloadN X0.here hx rfl (hb hby d8_5) rfl rfl k) ?_
  refine own_alen X0 hx hZ e0 VA (hb hby d8_6) ?_
  refine own_st (fr' := (mkF m 17 #[.val (.ref a), oI 0, oI N] [])) (fun t k => XS.icmpYes X0.here hx rfl (pc0 := 7) (pc' := 17) rfl (hb hby d8_7) rfl (own_teq (x := N) (y := N) (show N.toInt = N.toInt from rfl)).1 (by decide) (by decide) k) ?_
  refine own_st (fr' := (mkF m 18 #[.val (.ref a), oI 0, oI N] [(.ref a)])) (fun t k => XS.aloadN X0.here hx rfl (hb hby d8_17) rfl rfl k) ?_
  refine own_clone X0 hx hZ hown (hw _ (List.mem_of_getElem? (i := 61) rfl)) (hw _ (List.mem_of_getElem? (i := 62) rfl)) (hw _ (List.mem_of_getElem? (i := 66) rfl)) (hw _ (List.mem_of_getElem? (i := 64) rfl)) (hw _ (List.mem_of_getElem? (i := 65) rfl)) (hw _ (List.mem_of_getElem? (i := 67) rfl)) e0 VA EA (by rw [hml]; rfl) (hb hby d8_18) (by decide) (W := 0) (Nat.le_of_eq rfl) (by decide) (cap := 304) (by omega) (by decide) (by decide) ?_
  intro T7 h7 b7 g7 X7 e7 E7 VA7 EX7
  obtain ⟨T8, X8, e8, st8⟩ := castY X7 hx hZ hown (hw _ (List.mem_of_getElem? (i := 68) rfl)) e7 (Ins.self EX7) (g := (mkF m 21 #[.val (.ref a), oI 0, oI N] [(.ref b7)])) rfl rfl (hb hby d8_21)
  refine own_st (fr' := (mkF m 24 #[.val (.ref a), oI 0, oI N] [(.ref b7)])) st8 ?_
  exact own_retA X8 hx hlk hret rfl rfl (hb hby d8_24) (by decide) (by decide) (by rw [e8]; exact ⟨⟨b7, rfl, Nat.le_of_eq g7.symm, VA7⟩, N0, (Keep.ext (Keep.refl h0 []) E7)⟩)
theorem d5_0 : decode prog_30_method_1_code 0 = .ok (.aload_n 0, 1) := by decide +kernel
theorem d5_1 : decode prog_30_method_1_code 1 = .ok (.invokespecial 1, 3) := by decide +kernel
theorem d5_4 : decode prog_30_method_1_code 4 = .ok (.aload_n 0, 1) := by decide +kernel
theorem d5_5 : decode prog_30_method_1_code 5 = .ok (.aload_n 1, 1) := by decide +kernel
theorem d5_6 : decode prog_30_method_1_code 6 = .ok (.putfield 7, 3) := by decide +kernel
theorem d5_9 : decode prog_30_method_1_code 9 = .ok (.aload_n 0, 1) := by decide +kernel
theorem d5_10 : decode prog_30_method_1_code 10 = .ok (.iload_n 2, 1) := by decide +kernel
theorem d5_11 : decode prog_30_method_1_code 11 = .ok (.putfield 13, 3) := by decide +kernel
theorem d5_14 : decode prog_30_method_1_code 14 = .ok (.aload_n 0, 1) := by decide +kernel
theorem d5_15 : decode prog_30_method_1_code 15 = .ok (.iload_n 3, 1) := by decide +kernel
theorem d5_16 : decode prog_30_method_1_code 16 = .ok (.putfield 17, 3) := by decide +kernel
theorem d5_19 : decode prog_30_method_1_code 19 = .ok (.aload_n 0, 1) := by decide +kernel
theorem d5_20 : decode prog_30_method_1_code 20 = .ok (.iload 4, 2) := by decide +kernel
theorem d5_22 : decode prog_30_method_1_code 22 = .ok (.putfield 20, 3) := by decide +kernel
theorem d5_25 : decode prog_30_method_1_code 25 = .ok (.aload_n 0, 1) := by decide +kernel
theorem d5_26 : decode prog_30_method_1_code 26 = .ok (.iload 5, 2) := by decide +kernel
theorem d5_28 : decode prog_30_method_1_code 28 = .ok (.putfield 23, 3) := by decide +kernel
theorem d5_31 : decode prog_30_method_1_code 31 = .ok (.return_, 1) := by decide +kernel
theorem pn_1 : plainName "com/example/linkvouch/linkvouch/apk/Der" = true := by first | (simp [plainName, overriddenIn]; done) | decide +kernel
theorem ef_dinit (m : MethodId) (d : Addr) (a : Addr) (s0 : Int32) (cs : Int32) (en : Int32) : entryFrame m #[(.ref d), (.ref a), (.int t'), (.int s0), (.int cs), (.int en)] 6 = mkF m 0 #[.val (.ref d), .val (.ref a), oI t', oI s0, oI cs, oI en] [] := by first | (simp [entryFrame, mkF, argsToLocals, Value.category, maxLocals]; done) | rfl
def Q_dinit (Z : State) (d : Addr) (a : Addr) (t' : Int32) (s0 : Int32) (cs : Int32) (en : Int32) (h0 : Heap) (n0 : Nat) : Option Value → Heap → List Loc → Prop := fun v h L => v = none ∧ Fr n0 L ∧ Keep h0 h [d] ∧ Fld Z h d "com/example/linkvouch/linkvouch/apk/Der" "bytes" "[B" (.ref a) ∧ Fld Z h d "com/example/linkvouch/linkvouch/apk/Der" "tag" "I" (.int t') ∧ Fld Z h d "com/example/linkvouch/linkvouch/apk/Der" "start" "I" (.int s0) ∧ Fld Z h d "com/example/linkvouch/linkvouch/apk/Der" "contentStart" "I" (.int cs) ∧ Fld Z h d "com/example/linkvouch/linkvouch/apk/Der" "end" "I" (.int en)
set_option maxRecDepth 65536 in
set_option maxHeartbeats 40000000 in
theorem rm_dinit (l : Launch) (Z : State) (a0 : Array Value) (hw : ∀ d ∈ tables_1, d.before a0 Z = true) (ws : List Jvm.Cond) (d : Addr) (a : Addr) (t' : Int32) (s0 : Int32) (cs : Int32) (en : Int32) (h0 : Heap) (n0 : Nat) (Z0 : n0 ≤ h0.size) (F_bytes : Fld Z h0 d "com/example/linkvouch/linkvouch/apk/Der" "bytes" "[B" .null) (F_tag : Fld Z h0 d "com/example/linkvouch/linkvouch/apk/Der" "tag" "I" (.int 0)) (F_start : Fld Z h0 d "com/example/linkvouch/linkvouch/apk/Der" "start" "I" (.int 0)) (F_contentStart : Fld Z h0 d "com/example/linkvouch/linkvouch/apk/Der" "contentStart" "I" (.int 0)) (F_end : Fld Z h0 d "com/example/linkvouch/linkvouch/apk/Der" "end" "I" (.int 0)) (E0 : Exa Z h0 d "com/example/linkvouch/linkvouch/apk/Der") (ge_d : n0 ≤ d) :
    MetFree l (⟨"com/example/linkvouch/linkvouch/apk/Der", "<init>", "([BIIII)V"⟩ : MethodName) (head1 (Jvm.Cond.code (⟨"com/example/linkvouch/linkvouch/apk/Der", "<init>", "([BIIII)V"⟩ : MethodName) prog_30_method_1_code 6 none :: ws) ({ frames := 1, cells := 0, slots := 0, locals := 12 } : Room)) (fun aX U => aX = #[(.ref d), (.ref a), (.int t'), (.int s0), (.int cs), (.int en)] ∧ Z.Warmed39 U.vm ∧ U.heap = h0) (fun _ _ _ _ _ => True) (fun _ U o U' => ∃ v L, o = .returned v ∧ (Q_dinit Z d a t' s0 cs en h0 n0) v U'.heap L ∧ FrameEnd U o U' L ({ frames := 1, cells := 0, slots := 0, locals := 12 } : Room).cells ({ frames := 1, cells := 0, slots := 0, locals := 12 } : Room).slots) := by
  refine own_met (Q := (Q_dinit Z d a t' s0 cs en h0 n0)) (plainFor_of_name (x := (⟨"com/example/linkvouch/linkvouch/apk/Der", "<init>", "([BIIII)V"⟩ : MethodName)) pn_1) (fun m => ef_dinit m d a s0 cs en) ?_
  intro p e s m below meth cD s₁ hx hby hml hret hlk hZ hown hnm X0 e0 hs0
  have hown : s.vm.findClass "com/example/linkvouch/linkvouch/apk/Der" = some m.cls := hown
  have N0 := Fr.nil n0
  refine own_st (fr' := (mkF m 1 #[.val (.ref d), .val (.ref a), oI t', oI s0, oI cs, oI en] [(.ref d)])) (fun t k => XS.aloadN X0.here hx rfl (hb hby d5_0) rfl rfl k) ?_
  obtain ⟨T9, X9, e9, st9⟩ := initO X0 hx hZ hown (hw _ (List.mem_of_getElem? (i := 20) rfl)) (hw _ (List.mem_of_getElem? (i := 21) rfl)) (hw _ (List.mem_of_getElem? (i := 22) rfl)) e0 (g := (mkF m 1 #[.val (.ref d), .val (.ref a), oI t', oI s0, oI cs, oI en] [(.ref d)])) rfl (by rw [hml]; rfl) rfl (hb hby d5_1) (by decide) (W := 0) (by show 2 * 0 + _ ≤ _; exact Nat.le_of_eq rfl) (by decide)
  refine own_st (fr' := (mkF m 4 #[.val (.ref d), .val (.ref a), oI t', oI s0, oI cs, oI en] [])) st9 ?_
  refine own_st (fr' := (mkF m 5 #[.val (.ref d), .val (.ref a), oI t', oI s0, oI cs, oI en] [(.ref d)])) (fun t k => XS.aloadN X9.here hx rfl (hb hby d5_4) rfl rfl k) ?_
  refine own_st (fr' := (mkF m 6 #[.val (.ref d), .val (.ref a), oI t', oI s0, oI cs, oI en] [(.ref a), (.ref d)])) (fun t k => XS.aloadN X9.here hx rfl (hb hby d5_5) rfl rfl k) ?_
  obtain ⟨T10, h10, X10, e10, W10, st10⟩ := putF X9 hx hZ hown (host := "") (Or.inl (hw _ (List.mem_of_getElem? (i := 23) rfl))) Via.refl e9 F_bytes E0 (Or.inr ⟨(hw _ (List.mem_of_getElem? (i := 24) rfl)), rfl, hnm⟩) (hw _ (List.mem_of_getElem? (i := 16) rfl)) (ty := (.array .byte)) (by decide) (rfl) (rfl) (g := (mkF m 6 #[.val (.ref d), .val (.ref a), oI t', oI s0, oI cs, oI en] [(.ref a), (.ref d)])) rfl rfl (hb hby d5_6)
  have Fw10 := Fld.same W10 F_bytes
  have N10 := Fr.snoc X10 N0 ge_d
  refine own_st (fr' := (mkF m 9 #[.val (.ref d), .val (.ref a), oI t', oI s0, oI cs, oI en] [])) st10 ?_
  refine own_st (fr' := (mkF m 10 #[.val (.ref d), .val (.ref a), oI t', oI s0, oI cs, oI en] [(.ref d)])) (fun t k => XS.aloadN X10.here hx rfl (hb hby d5_9) rfl rfl k) ?_
  refine own_st (fr' := (mkF m 11 #[.val (.ref d), .val (.ref a), oI t', oI s0, oI cs, oI en] [(.int t'), (.ref d)])) (fun t k => XS.iloadN X10.here hx rfl (hb hby d5_10) rfl  k) ?_
  obtain ⟨T11, h11, X11, e11, W11, st11⟩ := putF X10 hx hZ hown (host := "") (Or.inl (hw _ (List.mem_of_getElem? (i := 25) rfl))) Via.refl e10 (Fld.other W10 F_tag (Or.inr (Jvm.RoadKit.slot_ne (C := "com/example/linkvouch/linkvouch/apk/Der") (Or.inr (hw _ (List.mem_of_getElem? (i := 26) rfl))) (Or.inr (hw _ (List.mem_of_getElem? (i := 24) rfl))) (by decide) (t := .int) (t' := (.array .byte)) (by decide) (by decide)))) (Exa.wr W10 E0) (Or.inr ⟨(hw _ (List.mem_of_getElem? (i := 26) rfl)), rfl, hnm⟩) (hw _ (List.mem_of_getElem? (i := 16) rfl)) (ty := .int) (by decide) (rfl) (rfl) (g := (mkF m 11 #[.val (.ref d), .val (.ref a), oI t', oI s0, oI cs, oI en] [(.int t'), (.ref d)])) rfl rfl (hb hby d5_11)
  have Fw11 := Fld.same W11 (Fld.other W10 F_tag (Or.inr (Jvm.RoadKit.slot_ne (C := "com/example/linkvouch/linkvouch/apk/Der") (Or.inr (hw _ (List.mem_of_getElem? (i := 26) rfl))) (Or.inr (hw _ (List.mem_of_getElem? (i := 24) rfl))) (by decide) (t := .int) (t' := (.array .byte)) (by decide) (by decide))))
  have N11 := Fr.snoc X11 N10 ge_d
  refine own_st (fr' := (mkF m 14 #[.val (.ref d), .val (.ref a), oI t', oI s0, oI cs, oI en] [])) st11 ?_
  refine own_st (fr' := (mkF m 15 #[.val (.ref d), .val (.ref a), oI t', oI s0, oI cs, oI en] [(.ref d)])) (fun t k => XS.aloadN X11.here hx rfl (hb hby d5_14) rfl rfl k) ?_
  refine own_st (fr' := (mkF m 16 #[.val (.ref d), .val (.ref a), oI t', oI s0, oI cs, oI en] [(.int s0), (.ref d)])) (fun t k => XS.iloadN X11.here hx rfl (hb hby d5_15) rfl  k) ?_
  obtain ⟨T12, h12, X12, e12, W12, st12⟩ := putF X11 hx hZ hown (host := "") (Or.inl (hw _ (List.mem_of_getElem? (i := 27) rfl))) Via.refl e11 (Fld.other W11 (Fld.other W10 F_start (Or.inr (Jvm.RoadKit.slot_ne (C := "com/example/linkvouch/linkvouch/apk/Der") (Or.inr (hw _ (List.mem_of_getElem? (i := 28) rfl))) (Or.inr (hw _ (List.mem_of_getElem? (i := 24) rfl))) (by decide) (t := .int) (t' := (.array .byte)) (by decide) (by decide)))) (Or.inr (Jvm.RoadKit.slot_ne (C := "com/example/linkvouch/linkvouch/apk/Der") (Or.inr (hw _ (List.mem_of_getElem? (i := 28) rfl))) (Or.inr (hw _ (List.mem_of_getElem? (i := 26) rfl))) (by decide) (t := .int) (t' := .int) (by decide) (by decide)))) (Exa.wr W11 (Exa.wr W10 E0)) (Or.inr ⟨(hw _ (List.mem_of_getElem? (i := 28) rfl)), rfl, hnm⟩) (hw _ (List.mem_of_getElem? (i := 16) rfl)) (ty := .int) (by decide) (rfl) (rfl) (g := (mkF m 16 #[.val (.ref d), .val (.ref a), oI t', oI s0, oI cs, oI en] [(.int s0), (.ref d)])) rfl rfl (hb hby d5_16)
  have Fw12 := Fld.same W12 (Fld.other W11 (Fld.other W10 F_start (Or.inr (Jvm.RoadKit.slot_ne (C := "com/example/linkvouch/linkvouch/apk/Der") (Or.inr (hw _ (List.mem_of_getElem? (i := 28) rfl))) (Or.inr (hw _ (List.mem_of_getElem? (i := 24) rfl))) (by decide) (t := .int) (t' := (.array .byte)) (by decide) (by decide)))) (Or.inr (Jvm.RoadKit.slot_ne (C := "com/example/linkvouch/linkvouch/apk/Der") (Or.inr (hw _ (List.mem_of_getElem? (i := 28) rfl))) (Or.inr (hw _ (List.mem_of_getElem? (i := 26) rfl))) (by decide) (t := .int) (t' := .int) (by decide) (by decide))))
  have N12 := Fr.snoc X12 N11 ge_d
  refine own_st (fr' := (mkF m 19 #[.val (.ref d), .val (.ref a), oI t', oI s0, oI cs, oI en] [])) st12 ?_
  refine own_st (fr' := (mkF m 20 #[.val (.ref d), .val (.ref a), oI t', oI s0, oI cs, oI en] [(.ref d)])) (fun t k => XS.aloadN X12.here hx rfl (hb hby d5_19) rfl rfl k) ?_
  refine own_st (fr' := (mkF m 22 #[.val (.ref d), .val (.ref a), oI t', oI s0, oI cs, oI en] [(.int cs), (.ref d)])) (fun t k => XS.iload X12.here hx rfl (hb hby d5_20) rfl  k) ?_
  obtain ⟨T13, h13, X13, e13, W13, st13⟩ := putF X12 hx hZ hown (host := "") (Or.inl (hw _ (List.mem_of_getElem? (i := 29) rfl))) Via.refl e12 (Fld.other W12 (Fld.other W11 (Fld.other W10 F_contentStart (Or.inr (Jvm.RoadKit.slot_ne (C := "com/example/linkvouch/linkvouch/apk/Der") (Or.inr (hw _ (List.mem_of_getElem? (i := 30) rfl))) (Or.inr (hw _ (List.mem_of_getElem? (i := 24) rfl))) (by decide) (t := .int) (t' := (.array .byte)) (by decide) (by decide)))) (Or.inr (Jvm.RoadKit.slot_ne (C := "com/example/linkvouch/linkvouch/apk/Der") (Or.inr (hw _ (List.mem_of_getElem? (i := 30) rfl))) (Or.inr (hw _ (List.mem_of_getElem? (i := 26) rfl))) (by decide) (t := .int) (t' := .int) (by decide) (by decide)))) (Or.inr (Jvm.RoadKit.slot_ne (C := "com/example/linkvouch/linkvouch/apk/Der") (Or.inr (hw _ (List.mem_of_getElem? (i := 30) rfl))) (Or.inr (hw _ (List.mem_of_getElem? (i := 28) rfl))) (by decide) (t := .int) (t' := .int) (by decide) (by decide)))) (Exa.wr W12 (Exa.wr W11 (Exa.wr W10 E0))) (Or.inr ⟨(hw _ (List.mem_of_getElem? (i := 30) rfl)), rfl, hnm⟩) (hw _ (List.mem_of_getElem? (i := 16) rfl)) (ty := .int) (by decide) (rfl) (rfl) (g := (mkF m 22 #[.val (.ref d), .val (.ref a), oI t', oI s0, oI cs, oI en] [(.int cs), (.ref d)])) rfl rfl (hb hby d5_22)
  have Fw13 := Fld.same W13 (Fld.other W12 (Fld.other W11 (Fld.other W10 F_contentStart (Or.inr (Jvm.RoadKit.slot_ne (C := "com/example/linkvouch/linkvouch/apk/Der") (Or.inr (hw _ (List.mem_of_getElem? (i := 30) rfl))) (Or.inr (hw _ (List.mem_of_getElem? (i := 24) rfl))) (by decide) (t := .int) (t' := (.array .byte)) (by decide) (by decide)))) (Or.inr (Jvm.RoadKit.slot_ne (C := "com/example/linkvouch/linkvouch/apk/Der") (Or.inr (hw _ (List.mem_of_getElem? (i := 30) rfl))) (Or.inr (hw _ (List.mem_of_getElem? (i := 26) rfl))) (by decide) (t := .int) (t' := .int) (by decide) (by decide)))) (Or.inr (Jvm.RoadKit.slot_ne (C := "com/example/linkvouch/linkvouch/apk/Der") (Or.inr (hw _ (List.mem_of_getElem? (i := 30) rfl))) (Or.inr (hw _ (List.mem_of_getElem? (i := 28) rfl))) (by decide) (t := .int) (t' := .int) (by decide) (by decide))))
  have N13 := Fr.snoc X13 N12 ge_d
  refine own_st (fr' := (mkF m 25 #[.val (.ref d), .val (.ref a), oI t', oI s0, oI cs, oI en] [])) st13 ?_
  refine own_st (fr' := (mkF m 26 #[.val (.ref d), .val (.ref a), oI t', oI s0, oI cs, oI en] [(.ref d)])) (fun t k => XS.aloadN X13.here hx rfl (hb hby d5_25) rfl rfl k) ?_
  refine own_st (fr' := (mkF m 28 #[.val (.ref d), .val (.ref a), oI t', oI s0, oI cs, oI en] [(.int en), (.ref d)])) (fun t k => XS.iload X13.here hx rfl (hb hby d5_26) rfl  k) ?_
  obtain ⟨T14, h14, X14, e14, W14, st14⟩ := putF X13 hx hZ hown (host := "") (Or.inl (hw _ (List.mem_of_getElem? (i := 31) rfl))) Via.refl e13 (Fld.other W13 (Fld.other W12 (Fld.other W11 (Fld.other W10 F_end (Or.inr (Jvm.RoadKit.slot_ne (C := "com/example/linkvouch/linkvouch/apk/Der") (Or.inr (hw _ (List.mem_of_getElem? (i := 32) rfl))) (Or.inr (hw _ (List.mem_of_getElem? (i := 24) rfl))) (by decide) (t := .int) (t' := (.array .byte)) (by decide) (by decide)))) (Or.inr (Jvm.RoadKit.slot_ne (C := "com/example/linkvouch/linkvouch/apk/Der") (Or.inr (hw _ (List.mem_of_getElem? (i := 32) rfl))) (Or.inr (hw _ (List.mem_of_getElem? (i := 26) rfl))) (by decide) (t := .int) (t' := .int) (by decide) (by decide)))) (Or.inr (Jvm.RoadKit.slot_ne (C := "com/example/linkvouch/linkvouch/apk/Der") (Or.inr (hw _ (List.mem_of_getElem? (i := 32) rfl))) (Or.inr (hw _ (List.mem_of_getElem? (i := 28) rfl))) (by decide) (t := .int) (t' := .int) (by decide) (by decide)))) (Or.inr (Jvm.RoadKit.slot_ne (C := "com/example/linkvouch/linkvouch/apk/Der") (Or.inr (hw _ (List.mem_of_getElem? (i := 32) rfl))) (Or.inr (hw _ (List.mem_of_getElem? (i := 30) rfl))) (by decide) (t := .int) (t' := .int) (by decide) (by decide)))) (Exa.wr W13 (Exa.wr W12 (Exa.wr W11 (Exa.wr W10 E0)))) (Or.inr ⟨(hw _ (List.mem_of_getElem? (i := 32) rfl)), rfl, hnm⟩) (hw _ (List.mem_of_getElem? (i := 16) rfl)) (ty := .int) (by decide) (rfl) (rfl) (g := (mkF m 28 #[.val (.ref d), .val (.ref a), oI t', oI s0, oI cs, oI en] [(.int en), (.ref d)])) rfl rfl (hb hby d5_28)
  have Fw14 := Fld.same W14 (Fld.other W13 (Fld.other W12 (Fld.other W11 (Fld.other W10 F_end (Or.inr (Jvm.RoadKit.slot_ne (C := "com/example/linkvouch/linkvouch/apk/Der") (Or.inr (hw _ (List.mem_of_getElem? (i := 32) rfl))) (Or.inr (hw _ (List.mem_of_getElem? (i := 24) rfl))) (by decide) (t := .int) (t' := (.array .byte)) (by decide) (by decide)))) (Or.inr (Jvm.RoadKit.slot_ne (C := "com/example/linkvouch/linkvouch/apk/Der") (Or.inr (hw _ (List.mem_of_getElem? (i := 32) rfl))) (Or.inr (hw _ (List.mem_of_getElem? (i := 26) rfl))) (by decide) (t := .int) (t' := .int) (by decide) (by decide)))) (Or.inr (Jvm.RoadKit.slot_ne (C := "com/example/linkvouch/linkvouch/apk/Der") (Or.inr (hw _ (List.mem_of_getElem? (i := 32) rfl))) (Or.inr (hw _ (List.mem_of_getElem? (i := 28) rfl))) (by decide) (t := .int) (t' := .int) (by decide) (by decide)))) (Or.inr (Jvm.RoadKit.slot_ne (C := "com/example/linkvouch/linkvouch/apk/Der") (Or.inr (hw _ (List.mem_of_getElem? (i := 32) rfl))) (Or.inr (hw _ (List.mem_of_getElem? (i := 30) rfl))) (by decide) (t := .int) (t' := .int) (by decide) (by decide))))
  have N14 := Fr.snoc X14 N13 ge_d
  refine own_st (fr' := (mkF m 31 #[.val (.ref d), .val (.ref a), oI t', oI s0, oI cs, oI en] [])) st14 ?_
  exact own_retV X14 hx hlk hret (hb hby d5_31) (by decide) (by decide) (by rw [e14]; exact ⟨rfl, N14, (Keep.wr (Keep.wr (Keep.wr (Keep.wr (Keep.wr (Keep.refl h0 [d]) W10 (Or.inl (List.mem_of_getElem? (i := 0) rfl))) W11 (Or.inl (List.mem_of_getElem? (i := 0) rfl))) W12 (Or.inl (List.mem_of_getElem? (i := 0) rfl))) W13 (Or.inl (List.mem_of_getElem? (i := 0) rfl))) W14 (Or.inl (List.mem_of_getElem? (i := 0) rfl))), (Fld.other W14 (Fld.other W13 (Fld.other W12 (Fld.other W11 Fw10 (Or.inr (Jvm.RoadKit.slot_ne (C := "com/example/linkvouch/linkvouch/apk/Der") (Or.inr (hw _ (List.mem_of_getElem? (i := 24) rfl))) (Or.inr (hw _ (List.mem_of_getElem? (i := 26) rfl))) (by decide) (t := (.array .byte)) (t' := .int) (by decide) (by decide)))) (Or.inr (Jvm.RoadKit.slot_ne (C := "com/example/linkvouch/linkvouch/apk/Der") (Or.inr (hw _ (List.mem_of_getElem? (i := 24) rfl))) (Or.inr (hw _ (List.mem_of_getElem? (i := 28) rfl))) (by decide) (t := (.array .byte)) (t' := .int) (by decide) (by decide)))) (Or.inr (Jvm.RoadKit.slot_ne (C := "com/example/linkvouch/linkvouch/apk/Der") (Or.inr (hw _ (List.mem_of_getElem? (i := 24) rfl))) (Or.inr (hw _ (List.mem_of_getElem? (i := 30) rfl))) (by decide) (t := (.array .byte)) (t' := .int) (by decide) (by decide)))) (Or.inr (Jvm.RoadKit.slot_ne (C := "com/example/linkvouch/linkvouch/apk/Der") (Or.inr (hw _ (List.mem_of_getElem? (i := 24) rfl))) (Or.inr (hw _ (List.mem_of_getElem? (i := 32) rfl))) (by decide) (t := (.array .byte)) (t' := .int) (by decide) (by decide)))), (Fld.other W14 (Fld.other W13 (Fld.other W12 Fw11 (Or.inr (Jvm.RoadKit.slot_ne (C := "com/example/linkvouch/linkvouch/apk/Der") (Or.inr (hw _ (List.mem_of_getElem? (i := 26) rfl))) (Or.inr (hw _ (List.mem_of_getElem? (i := 28) rfl))) (by decide) (t := .int) (t' := .int) (by decide) (by decide)))) (Or.inr (Jvm.RoadKit.slot_ne (C := "com/example/linkvouch/linkvouch/apk/Der") (Or.inr (hw _ (List.mem_of_getElem? (i := 26) rfl))) (Or.inr (hw _ (List.mem_of_getElem? (i := 30) rfl))) (by decide) (t := .int) (t' := .int) (by decide) (by decide)))) (Or.inr (Jvm.RoadKit.slot_ne (C := "com/example/linkvouch/linkvouch/apk/Der") (Or.inr (hw _ (List.mem_of_getElem? (i := 26) rfl))) (Or.inr (hw _ (List.mem_of_getElem? (i := 32) rfl))) (by decide) (t := .int) (t' := .int) (by decide) (by decide)))), (Fld.other W14 (Fld.other W13 Fw12 (Or.inr (Jvm.RoadKit.slot_ne (C := "com/example/linkvouch/linkvouch/apk/Der") (Or.inr (hw _ (List.mem_of_getElem? (i := 28) rfl))) (Or.inr (hw _ (List.mem_of_getElem? (i := 30) rfl))) (by decide) (t := .int) (t' := .int) (by decide) (by decide)))) (Or.inr (Jvm.RoadKit.slot_ne (C := "com/example/linkvouch/linkvouch/apk/Der") (Or.inr (hw _ (List.mem_of_getElem? (i := 28) rfl))) (Or.inr (hw _ (List.mem_of_getElem? (i := 32) rfl))) (by decide) (t := .int) (t' := .int) (by decide) (by decide)))), (Fld.other W14 Fw13 (Or.inr (Jvm.RoadKit.slot_ne (C := "com/example/linkvouch/linkvouch/apk/Der") (Or.inr (hw _ (List.mem_of_getElem? (i := 30) rfl))) (Or.inr (hw _ (List.mem_of_getElem? (i := 32) rfl))) (by decide) (t := .int) (t' := .int) (by decide) (by decide)))), Fw14⟩)
theorem d13_0 : decode prog_30_method_4_code 0 = .ok (.aload_n 0, 1) := by decide +kernel
theorem d13_1 : decode prog_30_method_4_code 1 = .ok (.getfield 13, 3) := by decide +kernel
theorem d13_4 : decode prog_30_method_4_code 4 = .ok (.ireturn, 1) := by decide +kernel
theorem ef_tag (m : MethodId) (d : Addr) : entryFrame m #[(.ref d)] 1 = mkF m 0 #[.val (.ref d)] [] := by first | (simp [entryFrame, mkF, argsToLocals, Value.category, maxLocals]; done) | rfl
def Q_tag (Z : State) (d : Addr) (tg : Int32) (h0 : Heap) (n0 : Nat) : Option Value → Heap → List Loc → Prop := fun v h L => v = some (.int tg) ∧ Fr n0 L ∧ h = h0
set_option maxRecDepth 65536 in
set_option maxHeartbeats 40000000 in
theorem rm_tag (l : Launch) (Z : State) (a0 : Array Value) (hw : ∀ d ∈ tables_1, d.before a0 Z = true) (ws : List Jvm.Cond) (d : Addr) (tg : Int32) (h0 : Heap) (n0 : Nat) (Z0 : n0 ≤ h0.size) (F_tag : Fld Z h0 d "com/example/linkvouch/linkvouch/apk/Der" "tag" "I" (.int tg)) :
    MetFree l (⟨"com/example/linkvouch/linkvouch/apk/Der", "tag", "()I"⟩ : MethodName) (head1 (Jvm.Cond.code (⟨"com/example/linkvouch/linkvouch/apk/Der", "tag", "()I"⟩ : MethodName) prog_30_method_4_code 1 (some .int) :: ws) ({ frames := 0, cells := 0, slots := 0, locals := 0 } : Room)) (fun aX U => aX = #[(.ref d)] ∧ Z.Warmed39 U.vm ∧ U.heap = h0) (fun _ _ _ _ _ => True) (fun _ U o U' => ∃ v L, o = .returned v ∧ (Q_tag Z d tg h0 n0) v U'.heap L ∧ FrameEnd U o U' L ({ frames := 0, cells := 0, slots := 0, locals := 0 } : Room).cells ({ frames := 0, cells := 0, slots := 0, locals := 0 } : Room).slots) := by
  refine own_met (Q := (Q_tag Z d tg h0 n0)) (plainFor_of_name (x := (⟨"com/example/linkvouch/linkvouch/apk/Der", "tag", "()I"⟩ : MethodName)) pn_1) (fun m => ef_tag m d) ?_
  intro p e s m below meth cD s₁ hx hby hml hret hlk hZ hown hnm X0 e0 hs0
  have hown : s.vm.findClass "com/example/linkvouch/linkvouch/apk/Der" = some m.cls := hown
  have N0 := Fr.nil n0
  refine own_st (fr' := (mkF m 1 #[.val (.ref d)] [(.ref d)])) (fun t k => XS.aloadN X0.here hx rfl (hb hby d13_0) rfl rfl k) ?_
  obtain ⟨T15, X15, e15, st15⟩ := getF X0 hx hZ hown (host := "") (Or.inl (hw _ (List.mem_of_getElem? (i := 25) rfl))) Via.refl e0 F_tag (g := (mkF m 1 #[.val (.ref d)] [(.ref d)])) rfl rfl (hb hby d13_1)
  refine own_st (fr' := (mkF m 4 #[.val (.ref d)] [(.int tg)])) st15 ?_
  exact own_retI X15 hx hlk hret (hb hby d13_4) (by decide) (by decide) (⟨rfl, N0, e15⟩)
theorem d1_0 : decode method_3_code 0 = .ok (.iload_n 0, 1) := by decide +kernel
theorem d1_1 : decode method_3_code 1 = .ok (.ifCond .ne 5, 3) := by decide +kernel
theorem d1_4 : decode method_3_code 4 = .ok (.iconst 0, 1) := by decide +kernel
theorem d1_5 : decode method_3_code 5 = .ok (.ireturn, 1) := by decide +kernel
theorem pn_2 : plainName "com/example/linkvouch/linkvouch/apk/DerParsePinLaw" = true := by first | (simp [plainName, overriddenIn]; done) | decide +kernel
theorem ef_len0 (m : MethodId)  : entryFrame m #[(.int 0)] 1 = mkF m 0 #[oI 0] [] := by first | (simp [entryFrame, mkF, argsToLocals, Value.category, maxLocals]; done) | rfl
def Q_len0 (Z : State)  (h0 : Heap) (n0 : Nat) : Option Value → Heap → List Loc → Prop := fun v h L => v = some (.int 0) ∧ Fr n0 L ∧ h = h0
set_option maxRecDepth 65536 in
set_option maxHeartbeats 40000000 in
theorem rm_len0 (l : Launch) (Z : State) (a0 : Array Value) (hw : ∀ d ∈ tables_1, d.before a0 Z = true) (ws : List Jvm.Cond)  (h0 : Heap) (n0 : Nat) (Z0 : n0 ≤ h0.size)  :
    MetFree l (⟨"com/example/linkvouch/linkvouch/apk/DerParsePinLaw", "lengthOf", "(I)I"⟩ : MethodName) (head1 (Jvm.Cond.code (⟨"com/example/linkvouch/linkvouch/apk/DerParsePinLaw", "lengthOf", "(I)I"⟩ : MethodName) method_3_code 1 (some .int) :: ws) ({ frames := 0, cells := 0, slots := 0, locals := 0 } : Room)) (fun aX U => aX = #[(.int 0)] ∧ Z.Warmed39 U.vm ∧ U.heap = h0) (fun _ _ _ _ _ => True) (fun _ U o U' => ∃ v L, o = .returned v ∧ (Q_len0 Z  h0 n0) v U'.heap L ∧ FrameEnd U o U' L ({ frames := 0, cells := 0, slots := 0, locals := 0 } : Room).cells ({ frames := 0, cells := 0, slots := 0, locals := 0 } : Room).slots) := by
  refine own_met (Q := (Q_len0 Z  h0 n0)) (plainFor_of_name (x := (⟨"com/example/linkvouch/linkvouch/apk/DerParsePinLaw", "lengthOf", "(I)I"⟩ : MethodName)) pn_2) (fun m => ef_len0 m ) ?_
  intro p e s m below meth cD s₁ hx hby hml hret hlk hZ hown hnm X0 e0 hs0
  have hown : s.vm.findClass "com/example/linkvouch/linkvouch/apk/DerParsePinLaw" = some m.cls := hown
  have N0 := Fr.nil n0
  refine own_st (fr' := (mkF m 1 #[oI 0] [(.int 0)])) (fun t k => XS.iloadN X0.here hx rfl (hb hby d1_0) rfl  k) ?_
  refine own_st (fr' := (mkF m 4 #[oI 0] [])) (fun t k => XS.ifNo X0.here hx rfl (hb hby d1_1) rfl ((if0 _ _).trans (own_teq (x := (0 : Int32)) (y := (0 : Int32)) (show 0 = 0 from by decide)).2) k) ?_
  refine own_st (fr' := (mkF m 5 #[oI 0] [(.int 0)])) (fun t k => XS.iconst X0.here hx rfl (hb hby d1_4) k) ?_
  exact own_retI X0 hx hlk hret (hb hby d1_5) (by decide) (by decide) (⟨rfl, N0, e0⟩)
theorem d2_0 : decode method_2_code 0 = .ok (.iload_n 0, 1) := by decide +kernel
theorem d2_1 : decode method_2_code 1 = .ok (.ifCond .ne 7, 3) := by decide +kernel
theorem d2_4 : decode method_2_code 4 = .ok (.iconst 2, 1) := by decide +kernel
theorem d2_5 : decode method_2_code 5 = .ok (.newarray .byte, 2) := by decide +kernel
theorem d2_7 : decode method_2_code 7 = .ok (.areturn, 1) := by decide +kernel
theorem ef_alloc0 (m : MethodId)  : entryFrame m #[(.int 0)] 1 = mkF m 0 #[oI 0] [] := by first | (simp [entryFrame, mkF, argsToLocals, Value.category, maxLocals]; done) | rfl
def Q_alloc0 (Z : State)  (h0 : Heap) (n0 : Nat) : Option Value → Heap → List Loc → Prop := fun v h L => (∃ r : Addr, v = some (.ref r) ∧ h0.size ≤ r ∧ n0 ≤ r ∧ own_A Z h r .byte 2 (fun _ => .int 0) ∧ Exa Z h r "[B") ∧ Fr n0 L ∧ Keep h0 h []
set_option maxRecDepth 65536 in
set_option maxHeartbeats 40000000 in
theorem rm_alloc0 (l : Launch) (Z : State) (a0 : Array Value) (hw : ∀ d ∈ tables_1, d.before a0 Z = true) (ws : List Jvm.Cond)  (h0 : Heap) (n0 : Nat) (Z0 : n0 ≤ h0.size)  :
    MetFree l (⟨"com/example/linkvouch/linkvouch/apk/DerParsePinLaw", "alloc", "(I)[B"⟩ : MethodName) (head1 (Jvm.Cond.code (⟨"com/example/linkvouch/linkvouch/apk/DerParsePinLaw", "alloc", "(I)[B"⟩ : MethodName) method_2_code 1 (some (.array .byte)) :: ws) ({ frames := 0, cells := 1, slots := 2, locals := 0 } : Room)) (fun aX U => aX = #[(.int 0)] ∧ Z.Warmed39 U.vm ∧ U.heap = h0) (fun _ _ _ _ _ => True) (fun _ U o U' => ∃ v L, o = .returned v ∧ (Q_alloc0 Z  h0 n0) v U'.heap L ∧ FrameEnd U o U' L ({ frames := 0, cells := 1, slots := 2, locals := 0 } : Room).cells ({ frames := 0, cells := 1, slots := 2, locals := 0 } : Room).slots) := by
  refine own_met (Q := (Q_alloc0 Z  h0 n0)) (plainFor_of_name (x := (⟨"com/example/linkvouch/linkvouch/apk/DerParsePinLaw", "alloc", "(I)[B"⟩ : MethodName)) pn_2) (fun m => ef_alloc0 m ) ?_
  intro p e s m below meth cD s₁ hx hby hml hret hlk hZ hown hnm X0 e0 hs0
  have hown : s.vm.findClass "com/example/linkvouch/linkvouch/apk/DerParsePinLaw" = some m.cls := hown
  have N0 := Fr.nil n0
  refine own_st (fr' := (mkF m 1 #[oI 0] [(.int 0)])) (fun t k => XS.iloadN X0.here hx rfl (hb hby d2_0) rfl  k) ?_
  refine own_st (fr' := (mkF m 4 #[oI 0] [])) (fun t k => XS.ifNo X0.here hx rfl (hb hby d2_1) rfl ((if0 _ _).trans (own_teq (x := (0 : Int32)) (y := (0 : Int32)) (show 0 = 0 from by decide)).2) k) ?_
  refine own_st (fr' := (mkF m 5 #[oI 0] [(.int 2)])) (fun t k => XS.iconst X0.here hx rfl (hb hby d2_4) k) ?_
  refine own_newarrE X0 hx hZ (hw _ (List.mem_of_getElem? (i := 7) rfl)) e0 (hb hby d2_5) (by decide) (cap := 2) (by decide) (by decide) (by decide) (by decide) rfl (C := "[B") rfl ?_
  intro T16 h16 b16 g16 X16 e16 E16 VA16 EX16
  have V16 := own_B.new VA16
  have ge_b16 : n0 ≤ b16 := Nat.le_trans Z0 (Nat.le_of_eq g16.symm)
  have sz_b16 : h0.size ≤ b16 := Nat.le_trans (Nat.le_refl _) (Nat.le_of_eq g16.symm)
  exact own_retA X16 hx hlk hret rfl rfl (hb hby d2_7) (by decide) (by decide) (by rw [e16]; exact ⟨⟨b16, rfl, sz_b16, ge_b16, VA16, EX16⟩, N0, (Keep.ext (Keep.refl h0 []) E16)⟩)
theorem pd_3 : parseMethodDescriptor "([BIIII)V" = some ⟨[(.array .byte), .int, .int, .int, .int], none⟩ := by decide +kernel
theorem d4_0 : decode prog_30_method_3_code 0 = .ok (.iload_n 2, 1) := by decide +kernel
theorem d4_1 : decode prog_30_method_3_code 1 = .ok (.iload_n 1, 1) := by decide +kernel
theorem d4_2 : decode prog_30_method_3_code 2 = .ok (.isub, 1) := by decide +kernel
theorem d4_3 : decode prog_30_method_3_code 3 = .ok (.iconst 2, 1) := by decide +kernel
theorem d4_4 : decode prog_30_method_3_code 4 = .ok (.if_icmp .ge 13, 3) := by decide +kernel
theorem d4_17 : decode prog_30_method_3_code 17 = .ok (.aload_n 0, 1) := by decide +kernel
theorem d4_18 : decode prog_30_method_3_code 18 = .ok (.iload_n 1, 1) := by decide +kernel
theorem d4_19 : decode prog_30_method_3_code 19 = .ok (.baload, 1) := by decide +kernel
theorem d4_20 : decode prog_30_method_3_code 20 = .ok (.sipush 255, 3) := by decide +kernel
theorem d4_23 : decode prog_30_method_3_code 23 = .ok (.iand, 1) := by decide +kernel
theorem d4_24 : decode prog_30_method_3_code 24 = .ok (.istore_n 3, 1) := by decide +kernel
theorem d4_25 : decode prog_30_method_3_code 25 = .ok (.iload_n 3, 1) := by decide +kernel
theorem d4_26 : decode prog_30_method_3_code 26 = .ok (.bipush 31, 2) := by decide +kernel
theorem d4_28 : decode prog_30_method_3_code 28 = .ok (.iand, 1) := by decide +kernel
theorem d4_29 : decode prog_30_method_3_code 29 = .ok (.bipush 31, 2) := by decide +kernel
theorem d4_31 : decode prog_30_method_3_code 31 = .ok (.if_icmp .ne 13, 3) := by decide +kernel
theorem d4_44 : decode prog_30_method_3_code 44 = .ok (.aload_n 0, 1) := by decide +kernel
theorem d4_45 : decode prog_30_method_3_code 45 = .ok (.iload_n 1, 1) := by decide +kernel
theorem d4_46 : decode prog_30_method_3_code 46 = .ok (.iconst 1, 1) := by decide +kernel
theorem d4_47 : decode prog_30_method_3_code 47 = .ok (.iadd, 1) := by decide +kernel
theorem d4_48 : decode prog_30_method_3_code 48 = .ok (.baload, 1) := by decide +kernel
theorem d4_49 : decode prog_30_method_3_code 49 = .ok (.sipush 255, 3) := by decide +kernel
theorem d4_52 : decode prog_30_method_3_code 52 = .ok (.iand, 1) := by decide +kernel
theorem d4_53 : decode prog_30_method_3_code 53 = .ok (.istore 4, 2) := by decide +kernel
theorem d4_55 : decode prog_30_method_3_code 55 = .ok (.iload_n 1, 1) := by decide +kernel
theorem d4_56 : decode prog_30_method_3_code 56 = .ok (.iconst 2, 1) := by decide +kernel
theorem d4_57 : decode prog_30_method_3_code 57 = .ok (.iadd, 1) := by decide +kernel
theorem d4_58 : decode prog_30_method_3_code 58 = .ok (.istore 5, 2) := by decide +kernel
theorem d4_60 : decode prog_30_method_3_code 60 = .ok (.iload 4, 2) := by decide +kernel
theorem d4_62 : decode prog_30_method_3_code 62 = .ok (.i2l, 1) := by decide +kernel
theorem d4_63 : decode prog_30_method_3_code 63 = .ok (.lstore 6, 2) := by decide +kernel
theorem d4_65 : decode prog_30_method_3_code 65 = .ok (.iload 4, 2) := by decide +kernel
theorem d4_67 : decode prog_30_method_3_code 67 = .ok (.sipush 128, 3) := by decide +kernel
theorem d4_70 : decode prog_30_method_3_code 70 = .ok (.if_icmp .lt 86, 3) := by decide +kernel
theorem d4_156 : decode prog_30_method_3_code 156 = .ok (.lload 6, 2) := by decide +kernel
theorem d4_158 : decode prog_30_method_3_code 158 = .ok (.iload_n 2, 1) := by decide +kernel
theorem d4_159 : decode prog_30_method_3_code 159 = .ok (.iload 5, 2) := by decide +kernel
theorem d4_161 : decode prog_30_method_3_code 161 = .ok (.isub, 1) := by decide +kernel
theorem d4_162 : decode prog_30_method_3_code 162 = .ok (.i2l, 1) := by decide +kernel
theorem d4_163 : decode prog_30_method_3_code 163 = .ok (.lcmp, 1) := by decide +kernel
theorem d4_164 : decode prog_30_method_3_code 164 = .ok (.ifCond .le 13, 3) := by decide +kernel
theorem d4_177 : decode prog_30_method_3_code 177 = .ok (.new 8, 3) := by decide +kernel
theorem d4_180 : decode prog_30_method_3_code 180 = .ok (.dup, 1) := by decide +kernel
theorem d4_181 : decode prog_30_method_3_code 181 = .ok (.aload_n 0, 1) := by decide +kernel
theorem d4_182 : decode prog_30_method_3_code 182 = .ok (.iload_n 3, 1) := by decide +kernel
theorem d4_183 : decode prog_30_method_3_code 183 = .ok (.iload_n 1, 1) := by decide +kernel
theorem d4_184 : decode prog_30_method_3_code 184 = .ok (.iload 5, 2) := by decide +kernel
theorem d4_186 : decode prog_30_method_3_code 186 = .ok (.iload 5, 2) := by decide +kernel
theorem d4_188 : decode prog_30_method_3_code 188 = .ok (.lload 6, 2) := by decide +kernel
theorem d4_190 : decode prog_30_method_3_code 190 = .ok (.l2i, 1) := by decide +kernel
theorem d4_191 : decode prog_30_method_3_code 191 = .ok (.iadd, 1) := by decide +kernel
theorem d4_192 : decode prog_30_method_3_code 192 = .ok (.invokespecial 45, 3) := by decide +kernel
theorem d4_195 : decode prog_30_method_3_code 195 = .ok (.areturn, 1) := by decide +kernel
theorem ef_read0 (m : MethodId) (a : Addr) : entryFrame m #[(.ref a), (.int 0), (.int 2)] 10 = mkF m 0 #[.val (.ref a), oI 0, oI 2, .unset, .unset, .unset, .unset, .unset, .unset, .unset] [] := by first | (simp [entryFrame, mkF, argsToLocals, Value.category, maxLocals]; done) | rfl
def Q_read0 (Z : State) (a : Addr) (t' : Int32) (f : Nat → Value) (h0 : Heap) (n0 : Nat) : Option Value → Heap → List Loc → Prop := fun v h L => (∃ d : Addr, v = some (.ref d) ∧ h0.size ≤ d ∧ Exa Z h d "com/example/linkvouch/linkvouch/apk/Der" ∧ Fld Z h d "com/example/linkvouch/linkvouch/apk/Der" "bytes" "[B" (.ref a) ∧ Fld Z h d "com/example/linkvouch/linkvouch/apk/Der" "tag" "I" (.int (t' &&& 255)) ∧ Fld Z h d "com/example/linkvouch/linkvouch/apk/Der" "start" "I" (.int 0) ∧ Fld Z h d "com/example/linkvouch/linkvouch/apk/Der" "contentStart" "I" (.int 2) ∧ Fld Z h d "com/example/linkvouch/linkvouch/apk/Der" "end" "I" (.int 2)) ∧ Fr n0 L ∧ Keep h0 h []
set_option maxRecDepth 65536 in
set_option maxHeartbeats 40000000 in
theorem rm_read0 (l : Launch) (Z : State) (a0 : Array Value) (hw : ∀ d ∈ tables_1, d.before a0 Z = true) (ws : List Jvm.Cond) (a : Addr) (t' : Int32) (f : Nat → Value) (h0 : Heap) (n0 : Nat) (Z0 : n0 ≤ h0.size) (VA : own_A Z h0 a .byte 2 f) (h_0 : f 0 = .int t') (h_1 : f 1 = .int (0)) (htag : ¬ ((t' &&& 255) &&& 31).toInt = 31) :
    MetFree l (⟨"com/example/linkvouch/linkvouch/apk/Der", "read", "([BII)Lcom/example/linkvouch/linkvouch/apk/Der;"⟩ : MethodName) (head1 (Jvm.Cond.code (⟨"com/example/linkvouch/linkvouch/apk/Der", "read", "([BII)Lcom/example/linkvouch/linkvouch/apk/Der;"⟩ : MethodName) prog_30_method_3_code 10 (some (.object "com/example/linkvouch/linkvouch/apk/Der")) :: ws) ({ frames := 2, cells := 1, slots := 5, locals := 40 } : Room)) (fun aX U => aX = #[(.ref a), (.int 0), (.int 2)] ∧ Z.Warmed39 U.vm ∧ U.heap = h0) (fun _ _ _ _ _ => True) (fun _ U o U' => ∃ v L, o = .returned v ∧ (Q_read0 Z a t' f h0 n0) v U'.heap L ∧ FrameEnd U o U' L ({ frames := 2, cells := 1, slots := 5, locals := 40 } : Room).cells ({ frames := 2, cells := 1, slots := 5, locals := 40 } : Room).slots) := by
  refine own_met (Q := (Q_read0 Z a t' f h0 n0)) (plainFor_of_name (x := (⟨"com/example/linkvouch/linkvouch/apk/Der", "read", "([BII)Lcom/example/linkvouch/linkvouch/apk/Der;"⟩ : MethodName)) pn_1) (fun m => ef_read0 m a) ?_
  intro p e s m below meth cD s₁ hx hby hml hret hlk hZ hown hnm X0 e0 hs0
  have hown : s.vm.findClass "com/example/linkvouch/linkvouch/apk/Der" = some m.cls := hown
  have N0 := Fr.nil n0
  refine own_st (fr' := (mkF m 1 #[.val (.ref a), oI 0, oI 2, .unset, .unset, .unset, .unset, .unset, .unset, .unset] [(.int 2)])) (fun t k => XS.iloadN X0.here hx rfl (hb hby d4_0) rfl  k) ?_
  refine own_st (fr' := (mkF m 2 #[.val (.ref a), oI 0, oI 2, .unset, .unset, .unset, .unset, .unset, .unset, .unset] [(.int 0), (.int 2)])) (fun t k => XS.iloadN X0.here hx rfl (hb hby d4_1) rfl  k) ?_
  refine own_st (fr' := (mkF m 3 #[.val (.ref a), oI 0, oI 2, .unset, .unset, .unset, .unset, .unset, .unset, .unset] [(.int 2)])) (fun t k => XS.isub X0.here hx rfl (hb hby d4_2) rfl k) ?_
  refine own_st (fr' := (mkF m 4 #[.val (.ref a), oI 0, oI 2, .unset, .unset, .unset, .unset, .unset, .unset, .unset] [(.int 2), (.int 2)])) (fun t k => XS.iconst X0.here hx rfl (hb hby d4_3) k) ?_
  refine own_st (fr' := (mkF m 17 #[.val (.ref a), oI 0, oI 2, .unset, .unset, .unset, .unset, .unset, .unset, .unset] [])) (fun t k => XS.icmpYes X0.here hx rfl (pc0 := 4) (pc' := 17) rfl (hb hby d4_4) rfl (own_flt (x := (2 : Int32)) (y := (2 : Int32)) (show ¬ 2 < 2 from by decide)).2.1 (by decide) (by decide) k) ?_
  refine own_st (fr' := (mkF m 18 #[.val (.ref a), oI 0, oI 2, .unset, .unset, .unset, .unset, .unset, .unset, .unset] [(.ref a)])) (fun t k => XS.aloadN X0.here hx rfl (hb hby d4_17) rfl rfl k) ?_
  refine own_st (fr' := (mkF m 19 #[.val (.ref a), oI 0, oI 2, .unset, .unset, .unset, .unset, .unset, .unset, .unset] [(.int 0), (.ref a)])) (fun t k => XS.iloadN X0.here hx rfl (hb hby d4_18) rfl  k) ?_
  refine own_baload (j := (0 : Int32)) X0 hx hZ e0 VA (by decide) (by decide) (v := (.int t')) (h_0) (hb hby d4_19) ?_
  refine own_st (fr' := (mkF m 23 #[.val (.ref a), oI 0, oI 2, .unset, .unset, .unset, .unset, .unset, .unset, .unset] [(.int 255), (.int t')])) (fun t k => XS.sipush X0.here hx rfl (hb hby d4_20) k) ?_
  refine own_st (fr' := (mkF m 24 #[.val (.ref a), oI 0, oI 2, .unset, .unset, .unset, .unset, .unset, .unset, .unset] [(.int (t' &&& (255 : Int32)))])) (fun t k => XS.iand X0.here hx rfl (hb hby d4_23) rfl k) ?_
  refine own_st (fr' := (mkF m 25 #[.val (.ref a), oI 0, oI 2, .val (.int (t' &&& (255 : Int32))), .unset, .unset, .unset, .unset, .unset, .unset] [])) (fun t k => XS.istoreN X0.here hx rfl (hb hby d4_24) rfl  (l' := #[.val (.ref a), oI 0, oI 2, .val (.int (t' &&& (255 : Int32))), .unset, .unset, .unset, .unset, .unset, .unset]) rfl k) ?_
  refine own_st (fr' := (mkF m 26 #[.val (.ref a), oI 0, oI 2, .val (.int (t' &&& (255 : Int32))), .unset, .unset, .unset, .unset, .unset, .unset] [(.int (t' &&& (255 : Int32)))])) (fun t k => XS.iloadN X0.here hx rfl (hb hby d4_25) rfl  k) ?_
  refine own_st (fr' := (mkF m 28 #[.val (.ref a), oI 0, oI 2, .val (.int (t' &&& (255 : Int32))), .unset, .unset, .unset, .unset, .unset, .unset] [(.int 31), (.int (t' &&& (255 : Int32)))])) (fun t k => XS.bipush X0.here hx rfl (hb hby d4_26) k) ?_
  refine own_st (fr' := (mkF m 29 #[.val (.ref a), oI 0, oI 2, .val (.int (t' &&& (255 : Int32))), .unset, .unset, .unset, .unset, .unset, .unset] [(.int ((t' &&& (255 : Int32)) &&& (31 : Int32)))])) (fun t k => XS.iand X0.here hx rfl (hb hby d4_28) rfl k) ?_
  refine own_st (fr' := (mkF m 31 #[.val (.ref a), oI 0, oI 2, .val (.int (t' &&& (255 : Int32))), .unset, .unset, .unset, .unset, .unset, .unset] [(.int 31), (.int ((t' &&& (255 : Int32)) &&& (31 : Int32)))])) (fun t k => XS.bipush X0.here hx rfl (hb hby d4_29) k) ?_
  refine own_st (fr' := (mkF m 44 #[.val (.ref a), oI 0, oI 2, .val (.int (t' &&& (255 : Int32))), .unset, .unset, .unset, .unset, .unset, .unset] [])) (fun t k => XS.icmpYes X0.here hx rfl (pc0 := 31) (pc' := 44) rfl (hb hby d4_31) rfl (own_feq (x := ((t' &&& (255 : Int32)) &&& (31 : Int32))) (y := (31 : Int32)) (show ¬ ((t' &&& (255 : Int32)) &&& (31 : Int32)).toInt = 31 from htag)).2 (by decide) (by decide) k) ?_
  refine own_st (fr' := (mkF m 45 #[.val (.ref a), oI 0, oI 2, .val (.int (t' &&& (255 : Int32))), .unset, .unset, .unset, .unset, .unset, .unset] [(.ref a)])) (fun t k => XS.aloadN X0.here hx rfl (hb hby d4_44) rfl rfl k) ?_
  refine own_st (fr' := (mkF m 46 #[.val (.ref a), oI 0, oI 2, .val (.int (t' &&& (255 : Int32))), .unset, .unset, .unset, .unset, .unset, .unset] [(.int 0), (.ref a)])) (fun t k => XS.iloadN X0.here hx rfl (hb hby d4_45) rfl  k) ?_
  refine own_st (fr' := (mkF m 47 #[.val (.ref a), oI 0, oI 2, .val (.int (t' &&& (255 : Int32))), .unset, .unset, .unset, .unset, .unset, .unset] [(.int 1), (.int 0), (.ref a)])) (fun t k => XS.iconst X0.here hx rfl (hb hby d4_46) k) ?_
  refine own_st (fr' := (mkF m 48 #[.val (.ref a), oI 0, oI 2, .val (.int (t' &&& (255 : Int32))), .unset, .unset, .unset, .unset, .unset, .unset] [(.int 1), (.ref a)])) (fun t k => XS.iadd X0.here hx rfl (hb hby d4_47) rfl k) ?_
  refine own_baload (j := (1 : Int32)) X0 hx hZ e0 VA (by decide) (by decide) (v := (.int 0)) (h_1) (hb hby d4_48) ?_
  refine own_st (fr' := (mkF m 52 #[.val (.ref a), oI 0, oI 2, .val (.int (t' &&& (255 : Int32))), .unset, .unset, .unset, .unset, .unset, .unset] [(.int 255), (.int 0)])) (fun t k => XS.sipush X0.here hx rfl (hb hby d4_49) k) ?_
  refine own_st (fr' := (mkF m 53 #[.val (.ref a), oI 0, oI 2, .val (.int (t' &&& (255 : Int32))), .unset, .unset, .unset, .unset, .unset, .unset] [(.int 0)])) (fun t k => XS.iand X0.here hx rfl (hb hby d4_52) rfl k) ?_
  refine own_st (fr' := (mkF m 55 #[.val (.ref a), oI 0, oI 2, .val (.int (t' &&& (255 : Int32))), oI 0, .unset, .unset, .unset, .unset, .unset] [])) (fun t k => XS.istore X0.here hx rfl (hb hby d4_53) rfl  (l' := #[.val (.ref a), oI 0, oI 2, .val (.int (t' &&& (255 : Int32))), oI 0, .unset, .unset, .unset, .unset, .unset]) rfl k) ?_
  refine own_st (fr' := (mkF m 56 #[.val (.ref a), oI 0, oI 2, .val (.int (t' &&& (255 : Int32))), oI 0, .unset, .unset, .unset, .unset, .unset] [(.int 0)])) (fun t k => XS.iloadN X0.here hx rfl (hb hby d4_55) rfl  k) ?_
  refine own_st (fr' := (mkF m 57 #[.val (.ref a), oI 0, oI 2, .val (.int (t' &&& (255 : Int32))), oI 0, .unset, .unset, .unset, .unset, .unset] [(.int 2), (.int 0)])) (fun t k => XS.iconst X0.here hx rfl (hb hby d4_56) k) ?_
  refine own_st (fr' := (mkF m 58 #[.val (.ref a), oI 0, oI 2, .val (.int (t' &&& (255 : Int32))), oI 0, .unset, .unset, .unset, .unset, .unset] [(.int 2)])) (fun t k => XS.iadd X0.here hx rfl (hb hby d4_57) rfl k) ?_
  refine own_st (fr' := (mkF m 60 #[.val (.ref a), oI 0, oI 2, .val (.int (t' &&& (255 : Int32))), oI 0, oI 2, .unset, .unset, .unset, .unset] [])) (fun t k => XS.istore X0.here hx rfl (hb hby d4_58) rfl  (l' := #[.val (.ref a), oI 0, oI 2, .val (.int (t' &&& (255 : Int32))), oI 0, oI 2, .unset, .unset, .unset, .unset]) rfl k) ?_
  refine own_st (fr' := (mkF m 62 #[.val (.ref a), oI 0, oI 2, .val (.int (t' &&& (255 : Int32))), oI 0, oI 2, .unset, .unset, .unset, .unset] [(.int 0)])) (fun t k => XS.iload X0.here hx rfl (hb hby d4_60) rfl  k) ?_
  refine own_st (fr' := (mkF m 63 #[.val (.ref a), oI 0, oI 2, .val (.int (t' &&& (255 : Int32))), oI 0, oI 2, .unset, .unset, .unset, .unset] [(.long (0 : Int64))])) (fun t k => XS.i2l X0.here hx rfl (hb hby d4_62) rfl k) ?_
  refine own_st (fr' := (mkF m 65 #[.val (.ref a), oI 0, oI 2, .val (.int (t' &&& (255 : Int32))), oI 0, oI 2, .val (.long (0 : Int64)), .second, .unset, .unset] [])) (fun t k => XS.lstore X0.here hx rfl (hb hby d4_63) rfl  (l' := #[.val (.ref a), oI 0, oI 2, .val (.int (t' &&& (255 : Int32))), oI 0, oI 2, .val (.long (0 : Int64)), .second, .unset, .unset]) rfl k) ?_
  refine own_st (fr' := (mkF m 67 #[.val (.ref a), oI 0, oI 2, .val (.int (t' &&& (255 : Int32))), oI 0, oI 2, .val (.long (0 : Int64)), .second, .unset, .unset] [(.int 0)])) (fun t k => XS.iload X0.here hx rfl (hb hby d4_65) rfl  k) ?_
  refine own_st (fr' := (mkF m 70 #[.val (.ref a), oI 0, oI 2, .val (.int (t' &&& (255 : Int32))), oI 0, oI 2, .val (.long (0 : Int64)), .second, .unset, .unset] [(.int 128), (.int 0)])) (fun t k => XS.sipush X0.here hx rfl (hb hby d4_67) k) ?_
  refine own_st (fr' := (mkF m 156 #[.val (.ref a), oI 0, oI 2, .val (.int (t' &&& (255 : Int32))), oI 0, oI 2, .val (.long (0 : Int64)), .second, .unset, .unset] [])) (fun t k => XS.icmpYes X0.here hx rfl (pc0 := 70) (pc' := 156) rfl (hb hby d4_70) rfl (own_tlt (x := (0 : Int32)) (y := (128 : Int32)) (show 0 < 128 from by decide)).1 (by decide) (by decide) k) ?_
  refine own_st (fr' := (mkF m 158 #[.val (.ref a), oI 0, oI 2, .val (.int (t' &&& (255 : Int32))), oI 0, oI 2, .val (.long (0 : Int64)), .second, .unset, .unset] [(.long (0 : Int64))])) (fun t k => XS.lload X0.here hx rfl (hb hby d4_156) rfl  k) ?_
  refine own_st (fr' := (mkF m 159 #[.val (.ref a), oI 0, oI 2, .val (.int (t' &&& (255 : Int32))), oI 0, oI 2, .val (.long (0 : Int64)), .second, .unset, .unset] [(.int 2), (.long (0 : Int64))])) (fun t k => XS.iloadN X0.here hx rfl (hb hby d4_158) rfl  k) ?_
  refine own_st (fr' := (mkF m 161 #[.val (.ref a), oI 0, oI 2, .val (.int (t' &&& (255 : Int32))), oI 0, oI 2, .val (.long (0 : Int64)), .second, .unset, .unset] [(.int 2), (.int 2), (.long (0 : Int64))])) (fun t k => XS.iload X0.here hx rfl (hb hby d4_159) rfl  k) ?_
  refine own_st (fr' := (mkF m 162 #[.val (.ref a), oI 0, oI 2, .val (.int (t' &&& (255 : Int32))), oI 0, oI 2, .val (.long (0 : Int64)), .second, .unset, .unset] [(.int 0), (.long (0 : Int64))])) (fun t k => XS.isub X0.here hx rfl (hb hby d4_161) rfl k) ?_
  refine own_st (fr' := (mkF m 163 #[.val (.ref a), oI 0, oI 2, .val (.int (t' &&& (255 : Int32))), oI 0, oI 2, .val (.long (0 : Int64)), .second, .unset, .unset] [(.long (0 : Int64)), (.long (0 : Int64))])) (fun t k => XS.i2l X0.here hx rfl (hb hby d4_162) rfl k) ?_
  refine own_st (fr' := (mkF m 164 #[.val (.ref a), oI 0, oI 2, .val (.int (t' &&& (255 : Int32))), oI 0, oI 2, .val (.long (0 : Int64)), .second, .unset, .unset] [(.int (lcmpW (0 : Int64) (0 : Int64)))])) (fun t k => XS.lcmp X0.here hx rfl (hb hby d4_163) rfl k) ?_
  refine own_st (fr' := (mkF m 177 #[.val (.ref a), oI 0, oI 2, .val (.int (t' &&& (255 : Int32))), oI 0, oI 2, .val (.long (0 : Int64)), .second, .unset, .unset] [])) (fun t k => XS.ifYes X0.here hx rfl (pc0 := 164) (pc' := 177) rfl (hb hby d4_164) rfl (own_fgtL (x := (0 : Int64)) (y := (0 : Int64)) (show ¬ 0 < 0 from by decide)).2 (by decide) (by decide) k) ?_
  obtain ⟨T17, h17, X17, e17, E17, A17, D17, -, st17⟩ := newO X0 hx hZ hown (hw _ (List.mem_of_getElem? (i := 15) rfl)) (hw _ (List.mem_of_getElem? (i := 16) rfl)) (hw _ (List.mem_of_getElem? (i := 10) rfl)) e0 (g := (mkF m 177 #[.val (.ref a), oI 0, oI 2, .val (.int (t' &&& (255 : Int32))), oI 0, oI 2, .val (.long (0 : Int64)), .second, .unset, .unset] [])) rfl (hb hby d4_177) (by decide) (by decide)
  obtain ⟨b17, g17⟩ : ∃ z, z = h0.size := ⟨_, rfl⟩
  rw [← g17] at A17 D17 st17
  have lt17_a : a < b17 := Nat.lt_of_lt_of_eq VA.lt g17.symm
  have ne17_a : a ≠ b17 := Nat.ne_of_lt lt17_a
  have ge_b17 : n0 ≤ b17 := Nat.le_trans Z0 (Nat.le_of_eq g17.symm)
  have sz_b17 : h0.size ≤ b17 := Nat.le_trans (Nat.le_refl _) (Nat.le_of_eq g17.symm)
  have F17_bytes : Fld Z h17 b17 "com/example/linkvouch/linkvouch/apk/Der" "bytes" "[B" .null := D17 (Or.inr (hw _ (List.mem_of_getElem? (i := 24) rfl))) (ty := (.array .byte)) (by decide)
  have F17_tag : Fld Z h17 b17 "com/example/linkvouch/linkvouch/apk/Der" "tag" "I" (.int 0) := D17 (Or.inr (hw _ (List.mem_of_getElem? (i := 26) rfl))) (ty := .int) (by decide)
  have F17_start : Fld Z h17 b17 "com/example/linkvouch/linkvouch/apk/Der" "start" "I" (.int 0) := D17 (Or.inr (hw _ (List.mem_of_getElem? (i := 28) rfl))) (ty := .int) (by decide)
  have F17_contentStart : Fld Z h17 b17 "com/example/linkvouch/linkvouch/apk/Der" "contentStart" "I" (.int 0) := D17 (Or.inr (hw _ (List.mem_of_getElem? (i := 30) rfl))) (ty := .int) (by decide)
  have F17_end : Fld Z h17 b17 "com/example/linkvouch/linkvouch/apk/Der" "end" "I" (.int 0) := D17 (Or.inr (hw _ (List.mem_of_getElem? (i := 32) rfl))) (ty := .int) (by decide)
  refine own_st (fr' := (mkF m 180 #[.val (.ref a), oI 0, oI 2, .val (.int (t' &&& (255 : Int32))), oI 0, oI 2, .val (.long (0 : Int64)), .second, .unset, .unset] [(.ref b17)])) st17 ?_
  refine own_st (fr' := (mkF m 181 #[.val (.ref a), oI 0, oI 2, .val (.int (t' &&& (255 : Int32))), oI 0, oI 2, .val (.long (0 : Int64)), .second, .unset, .unset] [(.ref b17), (.ref b17)])) (fun t k => XS.dup X17.here hx rfl (hb hby d4_180) rfl rfl k) ?_
  refine own_st (fr' := (mkF m 182 #[.val (.ref a), oI 0, oI 2, .val (.int (t' &&& (255 : Int32))), oI 0, oI 2, .val (.long (0 : Int64)), .second, .unset, .unset] [(.ref a), (.ref b17), (.ref b17)])) (fun t k => XS.aloadN X17.here hx rfl (hb hby d4_181) rfl rfl k) ?_
  refine own_st (fr' := (mkF m 183 #[.val (.ref a), oI 0, oI 2, .val (.int (t' &&& (255 : Int32))), oI 0, oI 2, .val (.long (0 : Int64)), .second, .unset, .unset] [(.int (t' &&& (255 : Int32))), (.ref a), (.ref b17), (.ref b17)])) (fun t k => XS.iloadN X17.here hx rfl (hb hby d4_182) rfl  k) ?_
  refine own_st (fr' := (mkF m 184 #[.val (.ref a), oI 0, oI 2, .val (.int (t' &&& (255 : Int32))), oI 0, oI 2, .val (.long (0 : Int64)), .second, .unset, .unset] [(.int 0), (.int (t' &&& (255 : Int32))), (.ref a), (.ref b17), (.ref b17)])) (fun t k => XS.iloadN X17.here hx rfl (hb hby d4_183) rfl  k) ?_
  refine own_st (fr' := (mkF m 186 #[.val (.ref a), oI 0, oI 2, .val (.int (t' &&& (255 : Int32))), oI 0, oI 2, .val (.long (0 : Int64)), .second, .unset, .unset] [(.int 2), (.int 0), (.int (t' &&& (255 : Int32))), (.ref a), (.ref b17), (.ref b17)])) (fun t k => XS.iload X17.here hx rfl (hb hby d4_184) rfl  k) ?_
  refine own_st (fr' := (mkF m 188 #[.val (.ref a), oI 0, oI 2, .val (.int (t' &&& (255 : Int32))), oI 0, oI 2, .val (.long (0 : Int64)), .second, .unset, .unset] [(.int 2), (.int 2), (.int 0), (.int (t' &&& (255 : Int32))), (.ref a), (.ref b17), (.ref b17)])) (fun t k => XS.iload X17.here hx rfl (hb hby d4_186) rfl  k) ?_
  refine own_st (fr' := (mkF m 190 #[.val (.ref a), oI 0, oI 2, .val (.int (t' &&& (255 : Int32))), oI 0, oI 2, .val (.long (0 : Int64)), .second, .unset, .unset] [(.long (0 : Int64)), (.int 2), (.int 2), (.int 0), (.int (t' &&& (255 : Int32))), (.ref a), (.ref b17), (.ref b17)])) (fun t k => XS.lload X17.here hx rfl (hb hby d4_188) rfl  k) ?_
  refine own_st (fr' := (mkF m 191 #[.val (.ref a), oI 0, oI 2, .val (.int (t' &&& (255 : Int32))), oI 0, oI 2, .val (.long (0 : Int64)), .second, .unset, .unset] [(.int 0), (.int 2), (.int 2), (.int 0), (.int (t' &&& (255 : Int32))), (.ref a), (.ref b17), (.ref b17)])) (fun t k => XS.l2i X17.here hx rfl (hb hby d4_190) rfl k) ?_
  refine own_st (fr' := (mkF m 192 #[.val (.ref a), oI 0, oI 2, .val (.int (t' &&& (255 : Int32))), oI 0, oI 2, .val (.long (0 : Int64)), .second, .unset, .unset] [(.int 2), (.int 2), (.int 0), (.int (t' &&& (255 : Int32))), (.ref a), (.ref b17), (.ref b17)])) (fun t k => XS.iadd X17.here hx rfl (hb hby d4_191) rfl k) ?_
  refine own_callN X17 hx hZ (y := (⟨"com/example/linkvouch/linkvouch/apk/Der", "<init>", "([BIIII)V"⟩ : MethodName)) hown rfl (hw _ (List.mem_of_getElem? (i := 17) rfl)) (hw _ (List.mem_of_getElem? (i := 18) rfl)) (hw _ (List.mem_of_getElem? (i := 10) rfl)) (hw _ (List.mem_of_getElem? (i := 19) rfl)) (by decide) (a := b17) (argsL := [(.ref a), (.int (t' &&& (255 : Int32))), (.int 0), (.int 2), (.int 2)]) (rest := [(.ref b17)]) (W := 1) (rm_dinit l Z a0 hw [] b17 a (t' &&& (255 : Int32)) (0 : Int32) (2 : Int32) (2 : Int32) h17 n0 (Nat.le_trans Z0 E17.1) F17_bytes F17_tag F17_start F17_contentStart F17_end A17 ge_b17) e17 (by rw [hml]; rfl) (lenOf pd_3 rfl) rfl (Nat.le_of_eq rfl) (hb hby d4_192) (by decide) (by decide) (by decide) (by decide) ?_
  intro v18 T18 L18 X18 hQ18
  obtain ⟨rfl, Nq18, K18, Fc18_0, Fc18_1, Fc18_2, Fc18_3, Fc18_4⟩ := hQ18
  have N18 := Fr.app N0 Nq18
  exact own_retA X18 hx hlk hret rfl rfl (hb hby d4_195) (by decide) (by decide) (⟨⟨b17, rfl, sz_b17, (A17.keep K18), Fc18_0, Fc18_1, Fc18_2, Fc18_3, Fc18_4⟩, N18, (Keep.trans (Keep.ext (Keep.refl h0 []) E17) K18 (allS (Or.inr sz_b17) all0))⟩)
theorem pd_4 : parseMethodDescriptor "([BII)Lcom/example/linkvouch/linkvouch/apk/Der;" = some ⟨[(.array .byte), .int, .int], some (.object "com/example/linkvouch/linkvouch/apk/Der")⟩ := by decide +kernel
theorem d3_0 : decode prog_30_method_2_code 0 = .ok (.aload_n 0, 1) := by decide +kernel
theorem d3_1 : decode prog_30_method_2_code 1 = .ok (.iconst 0, 1) := by decide +kernel
theorem d3_2 : decode prog_30_method_2_code 2 = .ok (.aload_n 0, 1) := by decide +kernel
theorem d3_3 : decode prog_30_method_2_code 3 = .ok (.arraylength, 1) := by decide +kernel
theorem d3_4 : decode prog_30_method_2_code 4 = .ok (.invokestatic 26, 3) := by decide +kernel
theorem d3_7 : decode prog_30_method_2_code 7 = .ok (.astore_n 1, 1) := by decide +kernel
theorem d3_8 : decode prog_30_method_2_code 8 = .ok (.aload_n 1, 1) := by decide +kernel
theorem d3_9 : decode prog_30_method_2_code 9 = .ok (.getfield 23, 3) := by decide +kernel
theorem d3_12 : decode prog_30_method_2_code 12 = .ok (.aload_n 0, 1) := by decide +kernel
theorem d3_13 : decode prog_30_method_2_code 13 = .ok (.arraylength, 1) := by decide +kernel
theorem d3_14 : decode prog_30_method_2_code 14 = .ok (.if_icmp .eq 13, 3) := by decide +kernel
theorem d3_27 : decode prog_30_method_2_code 27 = .ok (.aload_n 1, 1) := by decide +kernel
theorem d3_28 : decode prog_30_method_2_code 28 = .ok (.areturn, 1) := by decide +kernel
theorem ef_parse0 (m : MethodId) (a : Addr) : entryFrame m #[(.ref a)] 2 = mkF m 0 #[.val (.ref a), .unset] [] := by first | (simp [entryFrame, mkF, argsToLocals, Value.category, maxLocals]; done) | rfl
def Q_parse0 (Z : State) (a : Addr) (t' : Int32) (f : Nat → Value) (h0 : Heap) (n0 : Nat) : Option Value → Heap → List Loc → Prop := fun v h L => (∃ d : Addr, v = some (.ref d) ∧ h0.size ≤ d ∧ Exa Z h d "com/example/linkvouch/linkvouch/apk/Der" ∧ Fld Z h d "com/example/linkvouch/linkvouch/apk/Der" "bytes" "[B" (.ref a) ∧ Fld Z h d "com/example/linkvouch/linkvouch/apk/Der" "tag" "I" (.int (t' &&& 255)) ∧ Fld Z h d "com/example/linkvouch/linkvouch/apk/Der" "start" "I" (.int 0) ∧ Fld Z h d "com/example/linkvouch/linkvouch/apk/Der" "contentStart" "I" (.int 2) ∧ Fld Z h d "com/example/linkvouch/linkvouch/apk/Der" "end" "I" (.int 2)) ∧ Fr n0 L ∧ Keep h0 h []
set_option maxRecDepth 65536 in
set_option maxHeartbeats 40000000 in
theorem rm_parse0 (l : Launch) (Z : State) (a0 : Array Value) (hw : ∀ d ∈ tables_1, d.before a0 Z = true) (ws : List Jvm.Cond) (a : Addr) (t' : Int32) (f : Nat → Value) (h0 : Heap) (n0 : Nat) (Z0 : n0 ≤ h0.size) (VA : own_A Z h0 a .byte 2 f) (h_0 : f 0 = .int t') (h_1 : f 1 = .int (0)) (htag : ¬ ((t' &&& 255) &&& 31).toInt = 31) :
    MetFree l (⟨"com/example/linkvouch/linkvouch/apk/Der", "parse", "([B)Lcom/example/linkvouch/linkvouch/apk/Der;"⟩ : MethodName) (head1 (Jvm.Cond.code (⟨"com/example/linkvouch/linkvouch/apk/Der", "parse", "([B)Lcom/example/linkvouch/linkvouch/apk/Der;"⟩ : MethodName) prog_30_method_2_code 2 (some (.object "com/example/linkvouch/linkvouch/apk/Der")) :: ws) ({ frames := 3, cells := 1, slots := 5, locals := 70 } : Room)) (fun aX U => aX = #[(.ref a)] ∧ Z.Warmed39 U.vm ∧ U.heap = h0) (fun _ _ _ _ _ => True) (fun _ U o U' => ∃ v L, o = .returned v ∧ (Q_parse0 Z a t' f h0 n0) v U'.heap L ∧ FrameEnd U o U' L ({ frames := 3, cells := 1, slots := 5, locals := 70 } : Room).cells ({ frames := 3, cells := 1, slots := 5, locals := 70 } : Room).slots) := by
  refine own_met (Q := (Q_parse0 Z a t' f h0 n0)) (plainFor_of_name (x := (⟨"com/example/linkvouch/linkvouch/apk/Der", "parse", "([B)Lcom/example/linkvouch/linkvouch/apk/Der;"⟩ : MethodName)) pn_1) (fun m => ef_parse0 m a) ?_
  intro p e s m below meth cD s₁ hx hby hml hret hlk hZ hown hnm X0 e0 hs0
  have hown : s.vm.findClass "com/example/linkvouch/linkvouch/apk/Der" = some m.cls := hown
  have N0 := Fr.nil n0
  refine own_st (fr' := (mkF m 1 #[.val (.ref a), .unset] [(.ref a)])) (fun t k => XS.aloadN X0.here hx rfl (hb hby d3_0) rfl rfl k) ?_
  refine own_st (fr' := (mkF m 2 #[.val (.ref a), .unset] [(.int 0), (.ref a)])) (fun t k => XS.iconst X0.here hx rfl (hb hby d3_1) k) ?_
  refine own_st (fr' := (mkF m 3 #[.val (.ref a), .unset] [(.ref a), (.int 0), (.ref a)])) (fun t k => XS.aloadN X0.here hx rfl (hb hby d3_2) rfl rfl k) ?_
  refine own_alen X0 hx hZ e0 VA (hb hby d3_3) ?_
  refine own_callS X0 hx hZ (y := (⟨"com/example/linkvouch/linkvouch/apk/Der", "read", "([BII)Lcom/example/linkvouch/linkvouch/apk/Der;"⟩ : MethodName)) hown (hw _ (List.mem_of_getElem? (i := 12) rfl)) (hw _ (List.mem_of_getElem? (i := 13) rfl)) (hw _ (List.mem_of_getElem? (i := 10) rfl)) (hw _ (List.mem_of_getElem? (i := 14) rfl)) (by decide) (argsL := [(.ref a), (.int 0), (.int 2)]) (rest := []) (W := 0) (rm_read0 l Z a0 hw [] a t' f h0 n0 Z0 VA h_0 h_1 htag) e0 (by rw [hml]; rfl) (lenOf pd_4 rfl) rfl (Nat.le_of_eq rfl) (hb hby d3_4) (by decide) (by decide) (by decide) (by decide) ?_
  intro v19 T19 L19 X19 hQ19
  obtain ⟨⟨d, rfl, hd0, Ed, Fd0, Fd1, Fd2, Fd3, Fd4⟩, Nq19, K19⟩ := hQ19
  have N19 := Fr.app N0 Nq19
  refine own_st (fr' := (mkF m 8 #[.val (.ref a), .val (.ref d)] [])) (fun t k => XS.astoreN X19.here hx rfl (hb hby d3_7) rfl rfl (l' := #[.val (.ref a), .val (.ref d)]) rfl k) ?_
  refine own_st (fr' := (mkF m 9 #[.val (.ref a), .val (.ref d)] [(.ref d)])) (fun t k => XS.aloadN X19.here hx rfl (hb hby d3_8) rfl rfl k) ?_
  obtain ⟨T20, X20, e20, st20⟩ := getF X19 hx hZ hown (host := "") (Or.inl (hw _ (List.mem_of_getElem? (i := 31) rfl))) Via.refl rfl Fd4 (g := (mkF m 9 #[.val (.ref a), .val (.ref d)] [(.ref d)])) rfl rfl (hb hby d3_9)
  refine own_st (fr' := (mkF m 12 #[.val (.ref a), .val (.ref d)] [(.int 2)])) st20 ?_
  refine own_st (fr' := (mkF m 13 #[.val (.ref a), .val (.ref d)] [(.ref a), (.int 2)])) (fun t k => XS.aloadN X20.here hx rfl (hb hby d3_12) rfl rfl k) ?_
  refine own_alen X20 hx hZ e20 (VA.keep K19 nin0) (hb hby d3_13) ?_
  refine own_st (fr' := (mkF m 27 #[.val (.ref a), .val (.ref d)] [])) (fun t k => XS.icmpYes X20.here hx rfl (pc0 := 14) (pc' := 27) rfl (hb hby d3_14) rfl (own_teq (x := (2 : Int32)) (y := (2 : Int32)) (show 2 = 2 from by decide)).1 (by decide) (by decide) k) ?_
  refine own_st (fr' := (mkF m 28 #[.val (.ref a), .val (.ref d)] [(.ref d)])) (fun t k => XS.aloadN X20.here hx rfl (hb hby d3_27) rfl rfl k) ?_
  exact own_retA X20 hx hlk hret rfl rfl (hb hby d3_28) (by decide) (by decide) (by rw [e20]; exact ⟨⟨d, rfl, hd0, Ed, Fd0, Fd1, Fd2, Fd3, Fd4⟩, N19, (Keep.trans (Keep.refl h0 []) K19 all0)⟩)
theorem d7_0 : decode prog_30_method_9_code 0 = .ok (.aload_n 0, 1) := by decide +kernel
theorem d7_1 : decode prog_30_method_9_code 1 = .ok (.getfield 7, 3) := by decide +kernel
theorem d7_4 : decode prog_30_method_9_code 4 = .ok (.aload_n 0, 1) := by decide +kernel
theorem d7_5 : decode prog_30_method_9_code 5 = .ok (.getfield 20, 3) := by decide +kernel
theorem d7_8 : decode prog_30_method_9_code 8 = .ok (.aload_n 0, 1) := by decide +kernel
theorem d7_9 : decode prog_30_method_9_code 9 = .ok (.getfield 23, 3) := by decide +kernel
theorem d7_12 : decode prog_30_method_9_code 12 = .ok (.invokestatic 78, 3) := by decide +kernel
theorem d7_15 : decode prog_30_method_9_code 15 = .ok (.areturn, 1) := by decide +kernel
theorem ef_cont0 (m : MethodId) (d : Addr) : entryFrame m #[(.ref d)] 1 = mkF m 0 #[.val (.ref d)] [] := by first | (simp [entryFrame, mkF, argsToLocals, Value.category, maxLocals]; done) | rfl
def Q_cont0 (Z : State) (d : Addr) (a : Addr) (f : Nat → Value) (h0 : Heap) (n0 : Nat) : Option Value → Heap → List Loc → Prop := fun v h L => (∃ (r : Addr) (g : Nat → Value), v = some (.ref r) ∧ h0.size ≤ r ∧ own_A Z h r .byte 0 g ∧ ∀ i : Nat, i < 0 → g i = f (2 + i)) ∧ Fr n0 L ∧ Keep h0 h []
set_option maxRecDepth 65536 in
set_option maxHeartbeats 40000000 in
theorem rm_cont0 (l : Launch) (Z : State) (a0 : Array Value) (hw : ∀ d ∈ tables_1, d.before a0 Z = true) (ws : List Jvm.Cond) (d : Addr) (a : Addr) (f : Nat → Value) (h0 : Heap) (n0 : Nat) (Z0 : n0 ≤ h0.size) (F_bytes : Fld Z h0 d "com/example/linkvouch/linkvouch/apk/Der" "bytes" "[B" (.ref a)) (VA : own_A Z h0 a .byte 2 f) (EA : Exa Z h0 a "[B") (F_end : Fld Z h0 d "com/example/linkvouch/linkvouch/apk/Der" "end" "I" (.int 2)) (F_contentStart : Fld Z h0 d "com/example/linkvouch/linkvouch/apk/Der" "contentStart" "I" (.int 2)) :
    MetFree l (⟨"com/example/linkvouch/linkvouch/apk/Der", "content", "()[B"⟩ : MethodName) (head1 (Jvm.Cond.code (⟨"com/example/linkvouch/linkvouch/apk/Der", "content", "()[B"⟩ : MethodName) prog_30_method_9_code 1 (some (.array .byte)) :: ws) ({ frames := 3, cells := 1, slots := 304, locals := 110 } : Room)) (fun aX U => aX = #[(.ref d)] ∧ Z.Warmed39 U.vm ∧ U.heap = h0) (fun _ _ _ _ _ => True) (fun _ U o U' => ∃ v L, o = .returned v ∧ (Q_cont0 Z d a f h0 n0) v U'.heap L ∧ FrameEnd U o U' L ({ frames := 3, cells := 1, slots := 304, locals := 110 } : Room).cells ({ frames := 3, cells := 1, slots := 304, locals := 110 } : Room).slots) := by
  refine own_met (Q := (Q_cont0 Z d a f h0 n0)) (plainFor_of_name (x := (⟨"com/example/linkvouch/linkvouch/apk/Der", "content", "()[B"⟩ : MethodName)) pn_1) (fun m => ef_cont0 m d) ?_
  intro p e s m below meth cD s₁ hx hby hml hret hlk hZ hown hnm X0 e0 hs0
  have hown : s.vm.findClass "com/example/linkvouch/linkvouch/apk/Der" = some m.cls := hown
  have N0 := Fr.nil n0
  refine own_st (fr' := (mkF m 1 #[.val (.ref d)] [(.ref d)])) (fun t k => XS.aloadN X0.here hx rfl (hb hby d7_0) rfl rfl k) ?_
  obtain ⟨T21, X21, e21, st21⟩ := getF X0 hx hZ hown (host := "") (Or.inl (hw _ (List.mem_of_getElem? (i := 23) rfl))) Via.refl e0 F_bytes (g := (mkF m 1 #[.val (.ref d)] [(.ref d)])) rfl rfl (hb hby d7_1)
  refine own_st (fr' := (mkF m 4 #[.val (.ref d)] [(.ref a)])) st21 ?_
  refine own_st (fr' := (mkF m 5 #[.val (.ref d)] [(.ref d), (.ref a)])) (fun t k => XS.aloadN X21.here hx rfl (hb hby d7_4) rfl rfl k) ?_
  obtain ⟨T22, X22, e22, st22⟩ := getF X21 hx hZ hown (host := "") (Or.inl (hw _ (List.mem_of_getElem? (i := 29) rfl))) Via.refl e21 F_contentStart (g := (mkF m 5 #[.val (.ref d)] [(.ref d), (.ref a)])) rfl rfl (hb hby d7_5)
  refine own_st (fr' := (mkF m 8 #[.val (.ref d)] [(.int 2), (.ref a)])) st22 ?_
  refine own_st (fr' := (mkF m 9 #[.val (.ref d)] [(.ref d), (.int 2), (.ref a)])) (fun t k => XS.aloadN X22.here hx rfl (hb hby d7_8) rfl rfl k) ?_
  obtain ⟨T23, X23, e23, st23⟩ := getF X22 hx hZ hown (host := "") (Or.inl (hw _ (List.mem_of_getElem? (i := 31) rfl))) Via.refl e22 F_end (g := (mkF m 9 #[.val (.ref d)] [(.ref d), (.int 2), (.ref a)])) rfl rfl (hb hby d7_9)
  refine own_st (fr' := (mkF m 12 #[.val (.ref d)] [(.int 2), (.int 2), (.ref a)])) st23 ?_
  refine own_callS X23 hx hZ (y := (⟨"java/util/Arrays", "copyOfRange", "([BII)[B"⟩ : MethodName)) hown (hw _ (List.mem_of_getElem? (i := 38) rfl)) (hw _ (List.mem_of_getElem? (i := 39) rfl)) (hw _ (List.mem_of_getElem? (i := 40) rfl)) (hw _ (List.mem_of_getElem? (i := 41) rfl)) (by decide) (argsL := [(.ref a), (.int 2), (.int 2)]) (rest := []) (W := 0) (rm_cr1 l Z a0 hw [] a (2 : Int32) (2 : Int32) (2 : Int32) f h0 n0 Z0 VA EA ⟨by decide, by decide, by decide⟩ (by decide) (by decide)) e23 (by rw [hml]; rfl) (lenOf pd_2 rfl) rfl (Nat.le_of_eq rfl) (hb hby d7_12) (by decide) (by decide) (by decide) (by decide) ?_
  intro v24 T24 L24 X24 hQ24
  obtain ⟨⟨r, g, nl, rfl, hr, hnl, VR, hg⟩, Nq24, K24⟩ := hQ24
  have N24 := Fr.app N0 Nq24
  have enl : nl = (0 : Int32) := Int32.toInt_inj.mp (hnl.trans (by decide))
  subst enl
  exact own_retA X24 hx hlk hret rfl rfl (hb hby d7_15) (by decide) (by decide) (⟨⟨r, g, rfl, hr, VR, fun i hi => hg i (by show (i : Int) < (2 : Int) - 2; omega)⟩, N24, K24⟩)
theorem d12_0 : decode prog_30_method_8_code 0 = .ok (.aload_n 0, 1) := by decide +kernel
theorem d12_1 : decode prog_30_method_8_code 1 = .ok (.getfield 7, 3) := by decide +kernel
theorem d12_4 : decode prog_30_method_8_code 4 = .ok (.aload_n 0, 1) := by decide +kernel
theorem d12_5 : decode prog_30_method_8_code 5 = .ok (.getfield 17, 3) := by decide +kernel
theorem d12_8 : decode prog_30_method_8_code 8 = .ok (.aload_n 0, 1) := by decide +kernel
theorem d12_9 : decode prog_30_method_8_code 9 = .ok (.getfield 23, 3) := by decide +kernel
theorem d12_12 : decode prog_30_method_8_code 12 = .ok (.invokestatic 78, 3) := by decide +kernel
theorem d12_15 : decode prog_30_method_8_code 15 = .ok (.areturn, 1) := by decide +kernel
theorem ef_enc0 (m : MethodId) (d : Addr) : entryFrame m #[(.ref d)] 1 = mkF m 0 #[.val (.ref d)] [] := by first | (simp [entryFrame, mkF, argsToLocals, Value.category, maxLocals]; done) | rfl
def Q_enc0 (Z : State) (d : Addr) (a : Addr) (f : Nat → Value) (h0 : Heap) (n0 : Nat) : Option Value → Heap → List Loc → Prop := fun v h L => (∃ r : Addr, v = some (.ref r) ∧ h0.size ≤ r ∧ own_A Z h r .byte 2 f) ∧ Fr n0 L ∧ Keep h0 h []
set_option maxRecDepth 65536 in
set_option maxHeartbeats 40000000 in
theorem rm_enc0 (l : Launch) (Z : State) (a0 : Array Value) (hw : ∀ d ∈ tables_1, d.before a0 Z = true) (ws : List Jvm.Cond) (d : Addr) (a : Addr) (f : Nat → Value) (h0 : Heap) (n0 : Nat) (Z0 : n0 ≤ h0.size) (F_bytes : Fld Z h0 d "com/example/linkvouch/linkvouch/apk/Der" "bytes" "[B" (.ref a)) (VA : own_A Z h0 a .byte 2 f) (EA : Exa Z h0 a "[B") (F_end : Fld Z h0 d "com/example/linkvouch/linkvouch/apk/Der" "end" "I" (.int 2)) (F_start : Fld Z h0 d "com/example/linkvouch/linkvouch/apk/Der" "start" "I" (.int 0)) :
    MetFree l (⟨"com/example/linkvouch/linkvouch/apk/Der", "encoded", "()[B"⟩ : MethodName) (head1 (Jvm.Cond.code (⟨"com/example/linkvouch/linkvouch/apk/Der", "encoded", "()[B"⟩ : MethodName) prog_30_method_8_code 1 (some (.array .byte)) :: ws) ({ frames := 2, cells := 1, slots := 304, locals := 60 } : Room)) (fun aX U => aX = #[(.ref d)] ∧ Z.Warmed39 U.vm ∧ U.heap = h0) (fun _ _ _ _ _ => True) (fun _ U o U' => ∃ v L, o = .returned v ∧ (Q_enc0 Z d a f h0 n0) v U'.heap L ∧ FrameEnd U o U' L ({ frames := 2, cells := 1, slots := 304, locals := 60 } : Room).cells ({ frames := 2, cells := 1, slots := 304, locals := 60 } : Room).slots) := by
  refine own_met (Q := (Q_enc0 Z d a f h0 n0)) (plainFor_of_name (x := (⟨"com/example/linkvouch/linkvouch/apk/Der", "encoded", "()[B"⟩ : MethodName)) pn_1) (fun m => ef_enc0 m d) ?_
  intro p e s m below meth cD s₁ hx hby hml hret hlk hZ hown hnm X0 e0 hs0
  have hown : s.vm.findClass "com/example/linkvouch/linkvouch/apk/Der" = some m.cls := hown
  have N0 := Fr.nil n0
  refine own_st (fr' := (mkF m 1 #[.val (.ref d)] [(.ref d)])) (fun t k => XS.aloadN X0.here hx rfl (hb hby d12_0) rfl rfl k) ?_
  obtain ⟨T25, X25, e25, st25⟩ := getF X0 hx hZ hown (host := "") (Or.inl (hw _ (List.mem_of_getElem? (i := 23) rfl))) Via.refl e0 F_bytes (g := (mkF m 1 #[.val (.ref d)] [(.ref d)])) rfl rfl (hb hby d12_1)
  refine own_st (fr' := (mkF m 4 #[.val (.ref d)] [(.ref a)])) st25 ?_
  refine own_st (fr' := (mkF m 5 #[.val (.ref d)] [(.ref d), (.ref a)])) (fun t k => XS.aloadN X25.here hx rfl (hb hby d12_4) rfl rfl k) ?_
  obtain ⟨T26, X26, e26, st26⟩ := getF X25 hx hZ hown (host := "") (Or.inl (hw _ (List.mem_of_getElem? (i := 27) rfl))) Via.refl e25 F_start (g := (mkF m 5 #[.val (.ref d)] [(.ref d), (.ref a)])) rfl rfl (hb hby d12_5)
  refine own_st (fr' := (mkF m 8 #[.val (.ref d)] [(.int 0), (.ref a)])) st26 ?_
  refine own_st (fr' := (mkF m 9 #[.val (.ref d)] [(.ref d), (.int 0), (.ref a)])) (fun t k => XS.aloadN X26.here hx rfl (hb hby d12_8) rfl rfl k) ?_
  obtain ⟨T27, X27, e27, st27⟩ := getF X26 hx hZ hown (host := "") (Or.inl (hw _ (List.mem_of_getElem? (i := 31) rfl))) Via.refl e26 F_end (g := (mkF m 9 #[.val (.ref d)] [(.ref d), (.int 0), (.ref a)])) rfl rfl (hb hby d12_9)
  refine own_st (fr' := (mkF m 12 #[.val (.ref d)] [(.int 2), (.int 0), (.ref a)])) st27 ?_
  refine own_callS X27 hx hZ (y := (⟨"java/util/Arrays", "copyOfRange", "([BII)[B"⟩ : MethodName)) hown (hw _ (List.mem_of_getElem? (i := 38) rfl)) (hw _ (List.mem_of_getElem? (i := 39) rfl)) (hw _ (List.mem_of_getElem? (i := 40) rfl)) (hw _ (List.mem_of_getElem? (i := 41) rfl)) (by decide) (argsL := [(.ref a), (.int 0), (.int 2)]) (rest := []) (W := 0) (rm_cr0 l Z a0 hw [] a (2 : Int32) f h0 n0 Z0 VA EA (by decide)) e27 (by rw [hml]; rfl) (lenOf pd_2 rfl) rfl (Nat.le_of_eq rfl) (hb hby d12_12) (by decide) (by decide) (by decide) (by decide) ?_
  intro v28 T28 L28 X28 hQ28
  obtain ⟨⟨r, rfl, hr, VR⟩, Nq28, K28⟩ := hQ28
  have N28 := Fr.app N0 Nq28
  exact own_retA X28 hx hlk hret rfl rfl (hb hby d12_15) (by decide) (by decide) (⟨⟨r, rfl, hr, VR⟩, N28, K28⟩)
theorem d1_6 : decode method_3_code 6 = .ok (.iload_n 0, 1) := by decide +kernel
theorem d1_7 : decode method_3_code 7 = .ok (.iconst 1, 1) := by decide +kernel
theorem d1_8 : decode method_3_code 8 = .ok (.if_icmp .ne 5, 3) := by decide +kernel
theorem d1_11 : decode method_3_code 11 = .ok (.iconst 1, 1) := by decide +kernel
theorem d1_12 : decode method_3_code 12 = .ok (.ireturn, 1) := by decide +kernel
theorem ef_len1 (m : MethodId)  : entryFrame m #[(.int 1)] 1 = mkF m 0 #[oI 1] [] := by first | (simp [entryFrame, mkF, argsToLocals, Value.category, maxLocals]; done) | rfl
def Q_len1 (Z : State)  (h0 : Heap) (n0 : Nat) : Option Value → Heap → List Loc → Prop := fun v h L => v = some (.int 1) ∧ Fr n0 L ∧ h = h0
set_option maxRecDepth 65536 in
set_option maxHeartbeats 40000000 in
theorem rm_len1 (l : Launch) (Z : State) (a0 : Array Value) (hw : ∀ d ∈ tables_1, d.before a0 Z = true) (ws : List Jvm.Cond)  (h0 : Heap) (n0 : Nat) (Z0 : n0 ≤ h0.size)  :
    MetFree l (⟨"com/example/linkvouch/linkvouch/apk/DerParsePinLaw", "lengthOf", "(I)I"⟩ : MethodName) (head1 (Jvm.Cond.code (⟨"com/example/linkvouch/linkvouch/apk/DerParsePinLaw", "lengthOf", "(I)I"⟩ : MethodName) method_3_code 1 (some .int) :: ws) ({ frames := 0, cells := 0, slots := 0, locals := 0 } : Room)) (fun aX U => aX = #[(.int 1)] ∧ Z.Warmed39 U.vm ∧ U.heap = h0) (fun _ _ _ _ _ => True) (fun _ U o U' => ∃ v L, o = .returned v ∧ (Q_len1 Z  h0 n0) v U'.heap L ∧ FrameEnd U o U' L ({ frames := 0, cells := 0, slots := 0, locals := 0 } : Room).cells ({ frames := 0, cells := 0, slots := 0, locals := 0 } : Room).slots) := by
  refine own_met (Q := (Q_len1 Z  h0 n0)) (plainFor_of_name (x := (⟨"com/example/linkvouch/linkvouch/apk/DerParsePinLaw", "lengthOf", "(I)I"⟩ : MethodName)) pn_2) (fun m => ef_len1 m ) ?_
  intro p e s m below meth cD s₁ hx hby hml hret hlk hZ hown hnm X0 e0 hs0
  have hown : s.vm.findClass "com/example/linkvouch/linkvouch/apk/DerParsePinLaw" = some m.cls := hown
  have N0 := Fr.nil n0
  refine own_st (fr' := (mkF m 1 #[oI 1] [(.int 1)])) (fun t k => XS.iloadN X0.here hx rfl (hb hby d1_0) rfl  k) ?_
  refine own_st (fr' := (mkF m 6 #[oI 1] [])) (fun t k => XS.ifYes X0.here hx rfl (pc0 := 1) (pc' := 6) rfl (hb hby d1_1) rfl ((if0 _ _).trans (own_feq (x := (1 : Int32)) (y := (0 : Int32)) (show ¬ 1 = 0 from by decide)).2) (by decide) (by decide) k) ?_
  refine own_st (fr' := (mkF m 7 #[oI 1] [(.int 1)])) (fun t k => XS.iloadN X0.here hx rfl (hb hby d1_6) rfl  k) ?_
  refine own_st (fr' := (mkF m 8 #[oI 1] [(.int 1), (.int 1)])) (fun t k => XS.iconst X0.here hx rfl (hb hby d1_7) k) ?_
  refine own_st (fr' := (mkF m 11 #[oI 1] [])) (fun t k => XS.icmpNo X0.here hx rfl (hb hby d1_8) rfl (own_teq (x := (1 : Int32)) (y := (1 : Int32)) (show 1 = 1 from by decide)).2 k) ?_
  refine own_st (fr' := (mkF m 12 #[oI 1] [(.int 1)])) (fun t k => XS.iconst X0.here hx rfl (hb hby d1_11) k) ?_
  exact own_retI X0 hx hlk hret (hb hby d1_12) (by decide) (by decide) (⟨rfl, N0, e0⟩)
theorem d2_8 : decode method_2_code 8 = .ok (.iload_n 0, 1) := by decide +kernel
theorem d2_9 : decode method_2_code 9 = .ok (.iconst 1, 1) := by decide +kernel
theorem d2_10 : decode method_2_code 10 = .ok (.if_icmp .ne 7, 3) := by decide +kernel
theorem d2_13 : decode method_2_code 13 = .ok (.iconst 3, 1) := by decide +kernel
theorem d2_14 : decode method_2_code 14 = .ok (.newarray .byte, 2) := by decide +kernel
theorem d2_16 : decode method_2_code 16 = .ok (.areturn, 1) := by decide +kernel
theorem ef_alloc1 (m : MethodId)  : entryFrame m #[(.int 1)] 1 = mkF m 0 #[oI 1] [] := by first | (simp [entryFrame, mkF, argsToLocals, Value.category, maxLocals]; done) | rfl
def Q_alloc1 (Z : State)  (h0 : Heap) (n0 : Nat) : Option Value → Heap → List Loc → Prop := fun v h L => (∃ r : Addr, v = some (.ref r) ∧ h0.size ≤ r ∧ n0 ≤ r ∧ own_A Z h r .byte 3 (fun _ => .int 0) ∧ Exa Z h r "[B") ∧ Fr n0 L ∧ Keep h0 h []
set_option maxRecDepth 65536 in
set_option maxHeartbeats 40000000 in
theorem rm_alloc1 (l : Launch) (Z : State) (a0 : Array Value) (hw : ∀ d ∈ tables_1, d.before a0 Z = true) (ws : List Jvm.Cond)  (h0 : Heap) (n0 : Nat) (Z0 : n0 ≤ h0.size)  :
    MetFree l (⟨"com/example/linkvouch/linkvouch/apk/DerParsePinLaw", "alloc", "(I)[B"⟩ : MethodName) (head1 (Jvm.Cond.code (⟨"com/example/linkvouch/linkvouch/apk/DerParsePinLaw", "alloc", "(I)[B"⟩ : MethodName) method_2_code 1 (some (.array .byte)) :: ws) ({ frames := 0, cells := 1, slots := 3, locals := 0 } : Room)) (fun aX U => aX = #[(.int 1)] ∧ Z.Warmed39 U.vm ∧ U.heap = h0) (fun _ _ _ _ _ => True) (fun _ U o U' => ∃ v L, o = .returned v ∧ (Q_alloc1 Z  h0 n0) v U'.heap L ∧ FrameEnd U o U' L ({ frames := 0, cells := 1, slots := 3, locals := 0 } : Room).cells ({ frames := 0, cells := 1, slots := 3, locals := 0 } : Room).slots) := by
  refine own_met (Q := (Q_alloc1 Z  h0 n0)) (plainFor_of_name (x := (⟨"com/example/linkvouch/linkvouch/apk/DerParsePinLaw", "alloc", "(I)[B"⟩ : MethodName)) pn_2) (fun m => ef_alloc1 m ) ?_
  intro p e s m below meth cD s₁ hx hby hml hret hlk hZ hown hnm X0 e0 hs0
  have hown : s.vm.findClass "com/example/linkvouch/linkvouch/apk/DerParsePinLaw" = some m.cls := hown
  have N0 := Fr.nil n0
  refine own_st (fr' := (mkF m 1 #[oI 1] [(.int 1)])) (fun t k => XS.iloadN X0.here hx rfl (hb hby d2_0) rfl  k) ?_
  refine own_st (fr' := (mkF m 8 #[oI 1] [])) (fun t k => XS.ifYes X0.here hx rfl (pc0 := 1) (pc' := 8) rfl (hb hby d2_1) rfl ((if0 _ _).trans (own_feq (x := (1 : Int32)) (y := (0 : Int32)) (show ¬ 1 = 0 from by decide)).2) (by decide) (by decide) k) ?_
  refine own_st (fr' := (mkF m 9 #[oI 1] [(.int 1)])) (fun t k => XS.iloadN X0.here hx rfl (hb hby d2_8) rfl  k) ?_
  refine own_st (fr' := (mkF m 10 #[oI 1] [(.int 1), (.int 1)])) (fun t k => XS.iconst X0.here hx rfl (hb hby d2_9) k) ?_
  refine own_st (fr' := (mkF m 13 #[oI 1] [])) (fun t k => XS.icmpNo X0.here hx rfl (hb hby d2_10) rfl (own_teq (x := (1 : Int32)) (y := (1 : Int32)) (show 1 = 1 from by decide)).2 k) ?_
  refine own_st (fr' := (mkF m 14 #[oI 1] [(.int 3)])) (fun t k => XS.iconst X0.here hx rfl (hb hby d2_13) k) ?_
  refine own_newarrE X0 hx hZ (hw _ (List.mem_of_getElem? (i := 7) rfl)) e0 (hb hby d2_14) (by decide) (cap := 3) (by decide) (by decide) (by decide) (by decide) rfl (C := "[B") rfl ?_
  intro T29 h29 b29 g29 X29 e29 E29 VA29 EX29
  have V29 := own_B.new VA29
  have ge_b29 : n0 ≤ b29 := Nat.le_trans Z0 (Nat.le_of_eq g29.symm)
  have sz_b29 : h0.size ≤ b29 := Nat.le_trans (Nat.le_refl _) (Nat.le_of_eq g29.symm)
  exact own_retA X29 hx hlk hret rfl rfl (hb hby d2_16) (by decide) (by decide) (by rw [e29]; exact ⟨⟨b29, rfl, sz_b29, ge_b29, VA29, EX29⟩, N0, (Keep.ext (Keep.refl h0 []) E29)⟩)
theorem ef_read1 (m : MethodId) (a : Addr) : entryFrame m #[(.ref a), (.int 0), (.int 3)] 10 = mkF m 0 #[.val (.ref a), oI 0, oI 3, .unset, .unset, .unset, .unset, .unset, .unset, .unset] [] := by first | (simp [entryFrame, mkF, argsToLocals, Value.category, maxLocals]; done) | rfl
def Q_read1 (Z : State) (a : Addr) (t' : Int32) (f : Nat → Value) (h0 : Heap) (n0 : Nat) : Option Value → Heap → List Loc → Prop := fun v h L => (∃ d : Addr, v = some (.ref d) ∧ h0.size ≤ d ∧ Exa Z h d "com/example/linkvouch/linkvouch/apk/Der" ∧ Fld Z h d "com/example/linkvouch/linkvouch/apk/Der" "bytes" "[B" (.ref a) ∧ Fld Z h d "com/example/linkvouch/linkvouch/apk/Der" "tag" "I" (.int (t' &&& 255)) ∧ Fld Z h d "com/example/linkvouch/linkvouch/apk/Der" "start" "I" (.int 0) ∧ Fld Z h d "com/example/linkvouch/linkvouch/apk/Der" "contentStart" "I" (.int 2) ∧ Fld Z h d "com/example/linkvouch/linkvouch/apk/Der" "end" "I" (.int 3)) ∧ Fr n0 L ∧ Keep h0 h []
set_option maxRecDepth 65536 in
set_option maxHeartbeats 40000000 in
theorem rm_read1 (l : Launch) (Z : State) (a0 : Array Value) (hw : ∀ d ∈ tables_1, d.before a0 Z = true) (ws : List Jvm.Cond) (a : Addr) (t' : Int32) (f : Nat → Value) (h0 : Heap) (n0 : Nat) (Z0 : n0 ≤ h0.size) (VA : own_A Z h0 a .byte 3 f) (h_0 : f 0 = .int t') (h_1 : f 1 = .int (1)) (htag : ¬ ((t' &&& 255) &&& 31).toInt = 31) :
    MetFree l (⟨"com/example/linkvouch/linkvouch/apk/Der", "read", "([BII)Lcom/example/linkvouch/linkvouch/apk/Der;"⟩ : MethodName) (head1 (Jvm.Cond.code (⟨"com/example/linkvouch/linkvouch/apk/Der", "read", "([BII)Lcom/example/linkvouch/linkvouch/apk/Der;"⟩ : MethodName) prog_30_method_3_code 10 (some (.object "com/example/linkvouch/linkvouch/apk/Der")) :: ws) ({ frames := 2, cells := 1, slots := 5, locals := 40 } : Room)) (fun aX U => aX = #[(.ref a), (.int 0), (.int 3)] ∧ Z.Warmed39 U.vm ∧ U.heap = h0) (fun _ _ _ _ _ => True) (fun _ U o U' => ∃ v L, o = .returned v ∧ (Q_read1 Z a t' f h0 n0) v U'.heap L ∧ FrameEnd U o U' L ({ frames := 2, cells := 1, slots := 5, locals := 40 } : Room).cells ({ frames := 2, cells := 1, slots := 5, locals := 40 } : Room).slots) := by
  refine own_met (Q := (Q_read1 Z a t' f h0 n0)) (plainFor_of_name (x := (⟨"com/example/linkvouch/linkvouch/apk/Der", "read", "([BII)Lcom/example/linkvouch/linkvouch/apk/Der;"⟩ : MethodName)) pn_1) (fun m => ef_read1 m a) ?_
  intro p e s m below meth cD s₁ hx hby hml hret hlk hZ hown hnm X0 e0 hs0
  have hown : s.vm.findClass "com/example/linkvouch/linkvouch/apk/Der" = some m.cls := hown
  have N0 := Fr.nil n0
  refine own_st (fr' := (mkF m 1 #[.val (.ref a), oI 0, oI 3, .unset, .unset, .unset, .unset, .unset, .unset, .unset] [(.int 3)])) (fun t k => XS.iloadN X0.here hx rfl (hb hby d4_0) rfl  k) ?_
  refine own_st (fr' := (mkF m 2 #[.val (.ref a), oI 0, oI 3, .unset, .unset, .unset, .unset, .unset, .unset, .unset] [(.int 0), (.int 3)])) (fun t k => XS.iloadN X0.here hx rfl (hb hby d4_1) rfl  k) ?_
  refine own_st (fr' := (mkF m 3 #[.val (.ref a), oI 0, oI 3, .unset, .unset, .unset, .unset, .unset, .unset, .unset] [(.int 3)])) (fun t k => XS.isub X0.here hx rfl (hb hby d4_2) rfl k) ?_
  refine own_st (fr' := (mkF m 4 #[.val (.ref a), oI 0, oI 3, .unset, .unset, .unset, .unset, .unset, .unset, .unset] [(.int 2), (.int 3)])) (fun t k => XS.iconst X0.here hx rfl (hb hby d4_3) k) ?_
  refine own_st (fr' := (mkF m 17 #[.val (.ref a), oI 0, oI 3, .unset, .unset, .unset, .unset, .unset, .unset, .unset] [])) (fun t k => XS.icmpYes X0.here hx rfl (pc0 := 4) (pc' := 17) rfl (hb hby d4_4) rfl (own_flt (x := (3 : Int32)) (y := (2 : Int32)) (show ¬ 3 < 2 from by decide)).2.1 (by decide) (by decide) k) ?_
  refine own_st (fr' := (mkF m 18 #[.val (.ref a), oI 0, oI 3, .unset, .unset, .unset, .unset, .unset, .unset, .unset] [(.ref a)])) (fun t k => XS.aloadN X0.here hx rfl (hb hby d4_17) rfl rfl k) ?_
  refine own_st (fr' := (mkF m 19 #[.val (.ref a), oI 0, oI 3, .unset, .unset, .unset, .unset, .unset, .unset, .unset] [(.int 0), (.ref a)])) (fun t k => XS.iloadN X0.here hx rfl (hb hby d4_18) rfl  k) ?_
  refine own_baload (j := (0 : Int32)) X0 hx hZ e0 VA (by decide) (by decide) (v := (.int t')) (h_0) (hb hby d4_19) ?_
  refine own_st (fr' := (mkF m 23 #[.val (.ref a), oI 0, oI 3, .unset, .unset, .unset, .unset, .unset, .unset, .unset] [(.int 255), (.int t')])) (fun t k => XS.sipush X0.here hx rfl (hb hby d4_20) k) ?_
  refine own_st (fr' := (mkF m 24 #[.val (.ref a), oI 0, oI 3, .unset, .unset, .unset, .unset, .unset, .unset, .unset] [(.int (t' &&& (255 : Int32)))])) (fun t k => XS.iand X0.here hx rfl (hb hby d4_23) rfl k) ?_
  refine own_st (fr' := (mkF m 25 #[.val (.ref a), oI 0, oI 3, .val (.int (t' &&& (255 : Int32))), .unset, .unset, .unset, .unset, .unset, .unset] [])) (fun t k => XS.istoreN X0.here hx rfl (hb hby d4_24) rfl  (l' := #[.val (.ref a), oI 0, oI 3, .val (.int (t' &&& (255 : Int32))), .unset, .unset, .unset, .unset, .unset, .unset]) rfl k) ?_
  refine own_st (fr' := (mkF m 26 #[.val (.ref a), oI 0, oI 3, .val (.int (t' &&& (255 : Int32))), .unset, .unset, .unset, .unset, .unset, .unset] [(.int (t' &&& (255 : Int32)))])) (fun t k => XS.iloadN X0.here hx rfl (hb hby d4_25) rfl  k) ?_
  refine own_st (fr' := (mkF m 28 #[.val (.ref a), oI 0, oI 3, .val (.int (t' &&& (255 : Int32))), .unset, .unset, .unset, .unset, .unset, .unset] [(.int 31), (.int (t' &&& (255 : Int32)))])) (fun t k => XS.bipush X0.here hx rfl (hb hby d4_26) k) ?_
  refine own_st (fr' := (mkF m 29 #[.val (.ref a), oI 0, oI 3, .val (.int (t' &&& (255 : Int32))), .unset, .unset, .unset, .unset, .unset, .unset] [(.int ((t' &&& (255 : Int32)) &&& (31 : Int32)))])) (fun t k => XS.iand X0.here hx rfl (hb hby d4_28) rfl k) ?_
  refine own_st (fr' := (mkF m 31 #[.val (.ref a), oI 0, oI 3, .val (.int (t' &&& (255 : Int32))), .unset, .unset, .unset, .unset, .unset, .unset] [(.int 31), (.int ((t' &&& (255 : Int32)) &&& (31 : Int32)))])) (fun t k => XS.bipush X0.here hx rfl (hb hby d4_29) k) ?_
  refine own_st (fr' := (mkF m 44 #[.val (.ref a), oI 0, oI 3, .val (.int (t' &&& (255 : Int32))), .unset, .unset, .unset, .unset, .unset, .unset] [])) (fun t k => XS.icmpYes X0.here hx rfl (pc0 := 31) (pc' := 44) rfl (hb hby d4_31) rfl (own_feq (x := ((t' &&& (255 : Int32)) &&& (31 : Int32))) (y := (31 : Int32)) (show ¬ ((t' &&& (255 : Int32)) &&& (31 : Int32)).toInt = 31 from htag)).2 (by decide) (by decide) k) ?_
  refine own_st (fr' := (mkF m 45 #[.val (.ref a), oI 0, oI 3, .val (.int (t' &&& (255 : Int32))), .unset, .unset, .unset, .unset, .unset, .unset] [(.ref a)])) (fun t k => XS.aloadN X0.here hx rfl (hb hby d4_44) rfl rfl k) ?_
  refine own_st (fr' := (mkF m 46 #[.val (.ref a), oI 0, oI 3, .val (.int (t' &&& (255 : Int32))), .unset, .unset, .unset, .unset, .unset, .unset] [(.int 0), (.ref a)])) (fun t k => XS.iloadN X0.here hx rfl (hb hby d4_45) rfl  k) ?_
  refine own_st (fr' := (mkF m 47 #[.val (.ref a), oI 0, oI 3, .val (.int (t' &&& (255 : Int32))), .unset, .unset, .unset, .unset, .unset, .unset] [(.int 1), (.int 0), (.ref a)])) (fun t k => XS.iconst X0.here hx rfl (hb hby d4_46) k) ?_
  refine own_st (fr' := (mkF m 48 #[.val (.ref a), oI 0, oI 3, .val (.int (t' &&& (255 : Int32))), .unset, .unset, .unset, .unset, .unset, .unset] [(.int 1), (.ref a)])) (fun t k => XS.iadd X0.here hx rfl (hb hby d4_47) rfl k) ?_
  refine own_baload (j := (1 : Int32)) X0 hx hZ e0 VA (by decide) (by decide) (v := (.int 1)) (h_1) (hb hby d4_48) ?_
  refine own_st (fr' := (mkF m 52 #[.val (.ref a), oI 0, oI 3, .val (.int (t' &&& (255 : Int32))), .unset, .unset, .unset, .unset, .unset, .unset] [(.int 255), (.int 1)])) (fun t k => XS.sipush X0.here hx rfl (hb hby d4_49) k) ?_
  refine own_st (fr' := (mkF m 53 #[.val (.ref a), oI 0, oI 3, .val (.int (t' &&& (255 : Int32))), .unset, .unset, .unset, .unset, .unset, .unset] [(.int 1)])) (fun t k => XS.iand X0.here hx rfl (hb hby d4_52) rfl k) ?_
  refine own_st (fr' := (mkF m 55 #[.val (.ref a), oI 0, oI 3, .val (.int (t' &&& (255 : Int32))), oI 1, .unset, .unset, .unset, .unset, .unset] [])) (fun t k => XS.istore X0.here hx rfl (hb hby d4_53) rfl  (l' := #[.val (.ref a), oI 0, oI 3, .val (.int (t' &&& (255 : Int32))), oI 1, .unset, .unset, .unset, .unset, .unset]) rfl k) ?_
  refine own_st (fr' := (mkF m 56 #[.val (.ref a), oI 0, oI 3, .val (.int (t' &&& (255 : Int32))), oI 1, .unset, .unset, .unset, .unset, .unset] [(.int 0)])) (fun t k => XS.iloadN X0.here hx rfl (hb hby d4_55) rfl  k) ?_
  refine own_st (fr' := (mkF m 57 #[.val (.ref a), oI 0, oI 3, .val (.int (t' &&& (255 : Int32))), oI 1, .unset, .unset, .unset, .unset, .unset] [(.int 2), (.int 0)])) (fun t k => XS.iconst X0.here hx rfl (hb hby d4_56) k) ?_
  refine own_st (fr' := (mkF m 58 #[.val (.ref a), oI 0, oI 3, .val (.int (t' &&& (255 : Int32))), oI 1, .unset, .unset, .unset, .unset, .unset] [(.int 2)])) (fun t k => XS.iadd X0.here hx rfl (hb hby d4_57) rfl k) ?_
  refine own_st (fr' := (mkF m 60 #[.val (.ref a), oI 0, oI 3, .val (.int (t' &&& (255 : Int32))), oI 1, oI 2, .unset, .unset, .unset, .unset] [])) (fun t k => XS.istore X0.here hx rfl (hb hby d4_58) rfl  (l' := #[.val (.ref a), oI 0, oI 3, .val (.int (t' &&& (255 : Int32))), oI 1, oI 2, .unset, .unset, .unset, .unset]) rfl k) ?_
  refine own_st (fr' := (mkF m 62 #[.val (.ref a), oI 0, oI 3, .val (.int (t' &&& (255 : Int32))), oI 1, oI 2, .unset, .unset, .unset, .unset] [(.int 1)])) (fun t k => XS.iload X0.here hx rfl (hb hby d4_60) rfl  k) ?_
  refine own_st (fr' := (mkF m 63 #[.val (.ref a), oI 0, oI 3, .val (.int (t' &&& (255 : Int32))), oI 1, oI 2, .unset, .unset, .unset, .unset] [(.long (1 : Int64))])) (fun t k => XS.i2l X0.here hx rfl (hb hby d4_62) rfl k) ?_
  refine own_st (fr' := (mkF m 65 #[.val (.ref a), oI 0, oI 3, .val (.int (t' &&& (255 : Int32))), oI 1, oI 2, .val (.long (1 : Int64)), .second, .unset, .unset] [])) (fun t k => XS.lstore X0.here hx rfl (hb hby d4_63) rfl  (l' := #[.val (.ref a), oI 0, oI 3, .val (.int (t' &&& (255 : Int32))), oI 1, oI 2, .val (.long (1 : Int64)), .second, .unset, .unset]) rfl k) ?_
  refine own_st (fr' := (mkF m 67 #[.val (.ref a), oI 0, oI 3, .val (.int (t' &&& (255 : Int32))), oI 1, oI 2, .val (.long (1 : Int64)), .second, .unset, .unset] [(.int 1)])) (fun t k => XS.iload X0.here hx rfl (hb hby d4_65) rfl  k) ?_
  refine own_st (fr' := (mkF m 70 #[.val (.ref a), oI 0, oI 3, .val (.int (t' &&& (255 : Int32))), oI 1, oI 2, .val (.long (1 : Int64)), .second, .unset, .unset] [(.int 128), (.int 1)])) (fun t k => XS.sipush X0.here hx rfl (hb hby d4_67) k) ?_
  refine own_st (fr' := (mkF m 156 #[.val (.ref a), oI 0, oI 3, .val (.int (t' &&& (255 : Int32))), oI 1, oI 2, .val (.long (1 : Int64)), .second, .unset, .unset] [])) (fun t k => XS.icmpYes X0.here hx rfl (pc0 := 70) (pc' := 156) rfl (hb hby d4_70) rfl (own_tlt (x := (1 : Int32)) (y := (128 : Int32)) (show 1 < 128 from by decide)).1 (by decide) (by decide) k) ?_
  refine own_st (fr' := (mkF m 158 #[.val (.ref a), oI 0, oI 3, .val (.int (t' &&& (255 : Int32))), oI 1, oI 2, .val (.long (1 : Int64)), .second, .unset, .unset] [(.long (1 : Int64))])) (fun t k => XS.lload X0.here hx rfl (hb hby d4_156) rfl  k) ?_
  refine own_st (fr' := (mkF m 159 #[.val (.ref a), oI 0, oI 3, .val (.int (t' &&& (255 : Int32))), oI 1, oI 2, .val (.long (1 : Int64)), .second, .unset, .unset] [(.int 3), (.long (1 : Int64))])) (fun t k => XS.iloadN X0.here hx rfl (hb hby d4_158) rfl  k) ?_
  refine own_st (fr' := (mkF m 161 #[.val (.ref a), oI 0, oI 3, .val (.int (t' &&& (255 : Int32))), oI 1, oI 2, .val (.long (1 : Int64)), .second, .unset, .unset] [(.int 2), (.int 3), (.long (1 : Int64))])) (fun t k => XS.iload X0.here hx rfl (hb hby d4_159) rfl  k) ?_
  refine own_st (fr' := (mkF m 162 #[.val (.ref a), oI 0, oI 3, .val (.int (t' &&& (255 : Int32))), oI 1, oI 2, .val (.long (1 : Int64)), .second, .unset, .unset] [(.int 1), (.long (1 : Int64))])) (fun t k => XS.isub X0.here hx rfl (hb hby d4_161) rfl k) ?_
  refine own_st (fr' := (mkF m 163 #[.val (.ref a), oI 0, oI 3, .val (.int (t' &&& (255 : Int32))), oI 1, oI 2, .val (.long (1 : Int64)), .second, .unset, .unset] [(.long (1 : Int64)), (.long (1 : Int64))])) (fun t k => XS.i2l X0.here hx rfl (hb hby d4_162) rfl k) ?_
  refine own_st (fr' := (mkF m 164 #[.val (.ref a), oI 0, oI 3, .val (.int (t' &&& (255 : Int32))), oI 1, oI 2, .val (.long (1 : Int64)), .second, .unset, .unset] [(.int (lcmpW (1 : Int64) (1 : Int64)))])) (fun t k => XS.lcmp X0.here hx rfl (hb hby d4_163) rfl k) ?_
  refine own_st (fr' := (mkF m 177 #[.val (.ref a), oI 0, oI 3, .val (.int (t' &&& (255 : Int32))), oI 1, oI 2, .val (.long (1 : Int64)), .second, .unset, .unset] [])) (fun t k => XS.ifYes X0.here hx rfl (pc0 := 164) (pc' := 177) rfl (hb hby d4_164) rfl (own_fgtL (x := (1 : Int64)) (y := (1 : Int64)) (show ¬ 1 < 1 from by decide)).2 (by decide) (by decide) k) ?_
  obtain ⟨T30, h30, X30, e30, E30, A30, D30, -, st30⟩ := newO X0 hx hZ hown (hw _ (List.mem_of_getElem? (i := 15) rfl)) (hw _ (List.mem_of_getElem? (i := 16) rfl)) (hw _ (List.mem_of_getElem? (i := 10) rfl)) e0 (g := (mkF m 177 #[.val (.ref a), oI 0, oI 3, .val (.int (t' &&& (255 : Int32))), oI 1, oI 2, .val (.long (1 : Int64)), .second, .unset, .unset] [])) rfl (hb hby d4_177) (by decide) (by decide)
  obtain ⟨b30, g30⟩ : ∃ z, z = h0.size := ⟨_, rfl⟩
  rw [← g30] at A30 D30 st30
  have lt30_a : a < b30 := Nat.lt_of_lt_of_eq VA.lt g30.symm
  have ne30_a : a ≠ b30 := Nat.ne_of_lt lt30_a
  have ge_b30 : n0 ≤ b30 := Nat.le_trans Z0 (Nat.le_of_eq g30.symm)
  have sz_b30 : h0.size ≤ b30 := Nat.le_trans (Nat.le_refl _) (Nat.le_of_eq g30.symm)
  have F30_bytes : Fld Z h30 b30 "com/example/linkvouch/linkvouch/apk/Der" "bytes" "[B" .null := D30 (Or.inr (hw _ (List.mem_of_getElem? (i := 24) rfl))) (ty := (.array .byte)) (by decide)
  have F30_tag : Fld Z h30 b30 "com/example/linkvouch/linkvouch/apk/Der" "tag" "I" (.int 0) := D30 (Or.inr (hw _ (List.mem_of_getElem? (i := 26) rfl))) (ty := .int) (by decide)
  have F30_start : Fld Z h30 b30 "com/example/linkvouch/linkvouch/apk/Der" "start" "I" (.int 0) := D30 (Or.inr (hw _ (List.mem_of_getElem? (i := 28) rfl))) (ty := .int) (by decide)
  have F30_contentStart : Fld Z h30 b30 "com/example/linkvouch/linkvouch/apk/Der" "contentStart" "I" (.int 0) := D30 (Or.inr (hw _ (List.mem_of_getElem? (i := 30) rfl))) (ty := .int) (by decide)
  have F30_end : Fld Z h30 b30 "com/example/linkvouch/linkvouch/apk/Der" "end" "I" (.int 0) := D30 (Or.inr (hw _ (List.mem_of_getElem? (i := 32) rfl))) (ty := .int) (by decide)
  refine own_st (fr' := (mkF m 180 #[.val (.ref a), oI 0, oI 3, .val (.int (t' &&& (255 : Int32))), oI 1, oI 2, .val (.long (1 : Int64)), .second, .unset, .unset] [(.ref b30)])) st30 ?_
  refine own_st (fr' := (mkF m 181 #[.val (.ref a), oI 0, oI 3, .val (.int (t' &&& (255 : Int32))), oI 1, oI 2, .val (.long (1 : Int64)), .second, .unset, .unset] [(.ref b30), (.ref b30)])) (fun t k => XS.dup X30.here hx rfl (hb hby d4_180) rfl rfl k) ?_
  refine own_st (fr' := (mkF m 182 #[.val (.ref a), oI 0, oI 3, .val (.int (t' &&& (255 : Int32))), oI 1, oI 2, .val (.long (1 : Int64)), .second, .unset, .unset] [(.ref a), (.ref b30), (.ref b30)])) (fun t k => XS.aloadN X30.here hx rfl (hb hby d4_181) rfl rfl k) ?_
  refine own_st (fr' := (mkF m 183 #[.val (.ref a), oI 0, oI 3, .val (.int (t' &&& (255 : Int32))), oI 1, oI 2, .val (.long (1 : Int64)), .second, .unset, .unset] [(.int (t' &&& (255 : Int32))), (.ref a), (.ref b30), (.ref b30)])) (fun t k => XS.iloadN X30.here hx rfl (hb hby d4_182) rfl  k) ?_
  refine own_st (fr' := (mkF m 184 #[.val (.ref a), oI 0, oI 3, .val (.int (t' &&& (255 : Int32))), oI 1, oI 2, .val (.long (1 : Int64)), .second, .unset, .unset] [(.int 0), (.int (t' &&& (255 : Int32))), (.ref a), (.ref b30), (.ref b30)])) (fun t k => XS.iloadN X30.here hx rfl (hb hby d4_183) rfl  k) ?_
  refine own_st (fr' := (mkF m 186 #[.val (.ref a), oI 0, oI 3, .val (.int (t' &&& (255 : Int32))), oI 1, oI 2, .val (.long (1 : Int64)), .second, .unset, .unset] [(.int 2), (.int 0), (.int (t' &&& (255 : Int32))), (.ref a), (.ref b30), (.ref b30)])) (fun t k => XS.iload X30.here hx rfl (hb hby d4_184) rfl  k) ?_
  refine own_st (fr' := (mkF m 188 #[.val (.ref a), oI 0, oI 3, .val (.int (t' &&& (255 : Int32))), oI 1, oI 2, .val (.long (1 : Int64)), .second, .unset, .unset] [(.int 2), (.int 2), (.int 0), (.int (t' &&& (255 : Int32))), (.ref a), (.ref b30), (.ref b30)])) (fun t k => XS.iload X30.here hx rfl (hb hby d4_186) rfl  k) ?_
  refine own_st (fr' := (mkF m 190 #[.val (.ref a), oI 0, oI 3, .val (.int (t' &&& (255 : Int32))), oI 1, oI 2, .val (.long (1 : Int64)), .second, .unset, .unset] [(.long (1 : Int64)), (.int 2), (.int 2), (.int 0), (.int (t' &&& (255 : Int32))), (.ref a), (.ref b30), (.ref b30)])) (fun t k => XS.lload X30.here hx rfl (hb hby d4_188) rfl  k) ?_
  refine own_st (fr' := (mkF m 191 #[.val (.ref a), oI 0, oI 3, .val (.int (t' &&& (255 : Int32))), oI 1, oI 2, .val (.long (1 : Int64)), .second, .unset, .unset] [(.int 1), (.int 2), (.int 2), (.int 0), (.int (t' &&& (255 : Int32))), (.ref a), (.ref b30), (.ref b30)])) (fun t k => XS.l2i X30.here hx rfl (hb hby d4_190) rfl k) ?_
  refine own_st (fr' := (mkF m 192 #[.val (.ref a), oI 0, oI 3, .val (.int (t' &&& (255 : Int32))), oI 1, oI 2, .val (.long (1 : Int64)), .second, .unset, .unset] [(.int 3), (.int 2), (.int 0), (.int (t' &&& (255 : Int32))), (.ref a), (.ref b30), (.ref b30)])) (fun t k => XS.iadd X30.here hx rfl (hb hby d4_191) rfl k) ?_
  refine own_callN X30 hx hZ (y := (⟨"com/example/linkvouch/linkvouch/apk/Der", "<init>", "([BIIII)V"⟩ : MethodName)) hown rfl (hw _ (List.mem_of_getElem? (i := 17) rfl)) (hw _ (List.mem_of_getElem? (i := 18) rfl)) (hw _ (List.mem_of_getElem? (i := 10) rfl)) (hw _ (List.mem_of_getElem? (i := 19) rfl)) (by decide) (a := b30) (argsL := [(.ref a), (.int (t' &&& (255 : Int32))), (.int 0), (.int 2), (.int 3)]) (rest := [(.ref b30)]) (W := 1) (rm_dinit l Z a0 hw [] b30 a (t' &&& (255 : Int32)) (0 : Int32) (2 : Int32) (3 : Int32) h30 n0 (Nat.le_trans Z0 E30.1) F30_bytes F30_tag F30_start F30_contentStart F30_end A30 ge_b30) e30 (by rw [hml]; rfl) (lenOf pd_3 rfl) rfl (Nat.le_of_eq rfl) (hb hby d4_192) (by decide) (by decide) (by decide) (by decide) ?_
  intro v31 T31 L31 X31 hQ31
  obtain ⟨rfl, Nq31, K31, Fc31_0, Fc31_1, Fc31_2, Fc31_3, Fc31_4⟩ := hQ31
  have N31 := Fr.app N0 Nq31
  exact own_retA X31 hx hlk hret rfl rfl (hb hby d4_195) (by decide) (by decide) (⟨⟨b30, rfl, sz_b30, (A30.keep K31), Fc31_0, Fc31_1, Fc31_2, Fc31_3, Fc31_4⟩, N31, (Keep.trans (Keep.ext (Keep.refl h0 []) E30) K31 (allS (Or.inr sz_b30) all0))⟩)
theorem ef_parse1 (m : MethodId) (a : Addr) : entryFrame m #[(.ref a)] 2 = mkF m 0 #[.val (.ref a), .unset] [] := by first | (simp [entryFrame, mkF, argsToLocals, Value.category, maxLocals]; done) | rfl
def Q_parse1 (Z : State) (a : Addr) (t' : Int32) (f : Nat → Value) (h0 : Heap) (n0 : Nat) : Option Value → Heap → List Loc → Prop := fun v h L => (∃ d : Addr, v = some (.ref d) ∧ h0.size ≤ d ∧ Exa Z h d "com/example/linkvouch/linkvouch/apk/Der" ∧ Fld Z h d "com/example/linkvouch/linkvouch/apk/Der" "bytes" "[B" (.ref a) ∧ Fld Z h d "com/example/linkvouch/linkvouch/apk/Der" "tag" "I" (.int (t' &&& 255)) ∧ Fld Z h d "com/example/linkvouch/linkvouch/apk/Der" "start" "I" (.int 0) ∧ Fld Z h d "com/example/linkvouch/linkvouch/apk/Der" "contentStart" "I" (.int 2) ∧ Fld Z h d "com/example/linkvouch/linkvouch/apk/Der" "end" "I" (.int 3)) ∧ Fr n0 L ∧ Keep h0 h []
set_option maxRecDepth 65536 in
set_option maxHeartbeats 40000000 in
theorem rm_parse1 (l : Launch) (Z : State) (a0 : Array Value) (hw : ∀ d ∈ tables_1, d.before a0 Z = true) (ws : List Jvm.Cond) (a : Addr) (t' : Int32) (f : Nat → Value) (h0 : Heap) (n0 : Nat) (Z0 : n0 ≤ h0.size) (VA : own_A Z h0 a .byte 3 f) (h_0 : f 0 = .int t') (h_1 : f 1 = .int (1)) (htag : ¬ ((t' &&& 255) &&& 31).toInt = 31) :
    MetFree l (⟨"com/example/linkvouch/linkvouch/apk/Der", "parse", "([B)Lcom/example/linkvouch/linkvouch/apk/Der;"⟩ : MethodName) (head1 (Jvm.Cond.code (⟨"com/example/linkvouch/linkvouch/apk/Der", "parse", "([B)Lcom/example/linkvouch/linkvouch/apk/Der;"⟩ : MethodName) prog_30_method_2_code 2 (some (.object "com/example/linkvouch/linkvouch/apk/Der")) :: ws) ({ frames := 3, cells := 1, slots := 5, locals := 70 } : Room)) (fun aX U => aX = #[(.ref a)] ∧ Z.Warmed39 U.vm ∧ U.heap = h0) (fun _ _ _ _ _ => True) (fun _ U o U' => ∃ v L, o = .returned v ∧ (Q_parse1 Z a t' f h0 n0) v U'.heap L ∧ FrameEnd U o U' L ({ frames := 3, cells := 1, slots := 5, locals := 70 } : Room).cells ({ frames := 3, cells := 1, slots := 5, locals := 70 } : Room).slots) := by
  refine own_met (Q := (Q_parse1 Z a t' f h0 n0)) (plainFor_of_name (x := (⟨"com/example/linkvouch/linkvouch/apk/Der", "parse", "([B)Lcom/example/linkvouch/linkvouch/apk/Der;"⟩ : MethodName)) pn_1) (fun m => ef_parse1 m a) ?_
  intro p e s m below meth cD s₁ hx hby hml hret hlk hZ hown hnm X0 e0 hs0
  have hown : s.vm.findClass "com/example/linkvouch/linkvouch/apk/Der" = some m.cls := hown
  have N0 := Fr.nil n0
  refine own_st (fr' := (mkF m 1 #[.val (.ref a), .unset] [(.ref a)])) (fun t k => XS.aloadN X0.here hx rfl (hb hby d3_0) rfl rfl k) ?_
  refine own_st (fr' := (mkF m 2 #[.val (.ref a), .unset] [(.int 0), (.ref a)])) (fun t k => XS.iconst X0.here hx rfl (hb hby d3_1) k) ?_
  refine own_st (fr' := (mkF m 3 #[.val (.ref a), .unset] [(.ref a), (.int 0), (.ref a)])) (fun t k => XS.aloadN X0.here hx rfl (hb hby d3_2) rfl rfl k) ?_
  refine own_alen X0 hx hZ e0 VA (hb hby d3_3) ?_
  refine own_callS X0 hx hZ (y := (⟨"com/example/linkvouch/linkvouch/apk/Der", "read", "([BII)Lcom/example/linkvouch/linkvouch/apk/Der;"⟩ : MethodName)) hown (hw _ (List.mem_of_getElem? (i := 12) rfl)) (hw _ (List.mem_of_getElem? (i := 13) rfl)) (hw _ (List.mem_of_getElem? (i := 10) rfl)) (hw _ (List.mem_of_getElem? (i := 14) rfl)) (by decide) (argsL := [(.ref a), (.int 0), (.int 3)]) (rest := []) (W := 0) (rm_read1 l Z a0 hw [] a t' f h0 n0 Z0 VA h_0 h_1 htag) e0 (by rw [hml]; rfl) (lenOf pd_4 rfl) rfl (Nat.le_of_eq rfl) (hb hby d3_4) (by decide) (by decide) (by decide) (by decide) ?_
  intro v32 T32 L32 X32 hQ32
  obtain ⟨⟨d, rfl, hd0, Ed, Fd0, Fd1, Fd2, Fd3, Fd4⟩, Nq32, K32⟩ := hQ32
  have N32 := Fr.app N0 Nq32
  refine own_st (fr' := (mkF m 8 #[.val (.ref a), .val (.ref d)] [])) (fun t k => XS.astoreN X32.here hx rfl (hb hby d3_7) rfl rfl (l' := #[.val (.ref a), .val (.ref d)]) rfl k) ?_
  refine own_st (fr' := (mkF m 9 #[.val (.ref a), .val (.ref d)] [(.ref d)])) (fun t k => XS.aloadN X32.here hx rfl (hb hby d3_8) rfl rfl k) ?_
  obtain ⟨T33, X33, e33, st33⟩ := getF X32 hx hZ hown (host := "") (Or.inl (hw _ (List.mem_of_getElem? (i := 31) rfl))) Via.refl rfl Fd4 (g := (mkF m 9 #[.val (.ref a), .val (.ref d)] [(.ref d)])) rfl rfl (hb hby d3_9)
  refine own_st (fr' := (mkF m 12 #[.val (.ref a), .val (.ref d)] [(.int 3)])) st33 ?_
  refine own_st (fr' := (mkF m 13 #[.val (.ref a), .val (.ref d)] [(.ref a), (.int 3)])) (fun t k => XS.aloadN X33.here hx rfl (hb hby d3_12) rfl rfl k) ?_
  refine own_alen X33 hx hZ e33 (VA.keep K32 nin0) (hb hby d3_13) ?_
  refine own_st (fr' := (mkF m 27 #[.val (.ref a), .val (.ref d)] [])) (fun t k => XS.icmpYes X33.here hx rfl (pc0 := 14) (pc' := 27) rfl (hb hby d3_14) rfl (own_teq (x := (3 : Int32)) (y := (3 : Int32)) (show 3 = 3 from by decide)).1 (by decide) (by decide) k) ?_
  refine own_st (fr' := (mkF m 28 #[.val (.ref a), .val (.ref d)] [(.ref d)])) (fun t k => XS.aloadN X33.here hx rfl (hb hby d3_27) rfl rfl k) ?_
  exact own_retA X33 hx hlk hret rfl rfl (hb hby d3_28) (by decide) (by decide) (by rw [e33]; exact ⟨⟨d, rfl, hd0, Ed, Fd0, Fd1, Fd2, Fd3, Fd4⟩, N32, (Keep.trans (Keep.refl h0 []) K32 all0)⟩)
theorem ef_cont1 (m : MethodId) (d : Addr) : entryFrame m #[(.ref d)] 1 = mkF m 0 #[.val (.ref d)] [] := by first | (simp [entryFrame, mkF, argsToLocals, Value.category, maxLocals]; done) | rfl
def Q_cont1 (Z : State) (d : Addr) (a : Addr) (f : Nat → Value) (h0 : Heap) (n0 : Nat) : Option Value → Heap → List Loc → Prop := fun v h L => (∃ (r : Addr) (g : Nat → Value), v = some (.ref r) ∧ h0.size ≤ r ∧ own_A Z h r .byte 1 g ∧ ∀ i : Nat, i < 1 → g i = f (2 + i)) ∧ Fr n0 L ∧ Keep h0 h []
set_option maxRecDepth 65536 in
set_option maxHeartbeats 40000000 in
theorem rm_cont1 (l : Launch) (Z : State) (a0 : Array Value) (hw : ∀ d ∈ tables_1, d.before a0 Z = true) (ws : List Jvm.Cond) (d : Addr) (a : Addr) (f : Nat → Value) (h0 : Heap) (n0 : Nat) (Z0 : n0 ≤ h0.size) (F_bytes : Fld Z h0 d "com/example/linkvouch/linkvouch/apk/Der" "bytes" "[B" (.ref a)) (VA : own_A Z h0 a .byte 3 f) (EA : Exa Z h0 a "[B") (F_end : Fld Z h0 d "com/example/linkvouch/linkvouch/apk/Der" "end" "I" (.int 3)) (F_contentStart : Fld Z h0 d "com/example/linkvouch/linkvouch/apk/Der" "contentStart" "I" (.int 2)) :
    MetFree l (⟨"com/example/linkvouch/linkvouch/apk/Der", "content", "()[B"⟩ : MethodName) (head1 (Jvm.Cond.code (⟨"com/example/linkvouch/linkvouch/apk/Der", "content", "()[B"⟩ : MethodName) prog_30_method_9_code 1 (some (.array .byte)) :: ws) ({ frames := 3, cells := 1, slots := 304, locals := 110 } : Room)) (fun aX U => aX = #[(.ref d)] ∧ Z.Warmed39 U.vm ∧ U.heap = h0) (fun _ _ _ _ _ => True) (fun _ U o U' => ∃ v L, o = .returned v ∧ (Q_cont1 Z d a f h0 n0) v U'.heap L ∧ FrameEnd U o U' L ({ frames := 3, cells := 1, slots := 304, locals := 110 } : Room).cells ({ frames := 3, cells := 1, slots := 304, locals := 110 } : Room).slots) := by
  refine own_met (Q := (Q_cont1 Z d a f h0 n0)) (plainFor_of_name (x := (⟨"com/example/linkvouch/linkvouch/apk/Der", "content", "()[B"⟩ : MethodName)) pn_1) (fun m => ef_cont1 m d) ?_
  intro p e s m below meth cD s₁ hx hby hml hret hlk hZ hown hnm X0 e0 hs0
  have hown : s.vm.findClass "com/example/linkvouch/linkvouch/apk/Der" = some m.cls := hown
  have N0 := Fr.nil n0
  refine own_st (fr' := (mkF m 1 #[.val (.ref d)] [(.ref d)])) (fun t k => XS.aloadN X0.here hx rfl (hb hby d7_0) rfl rfl k) ?_
  obtain ⟨T34, X34, e34, st34⟩ := getF X0 hx hZ hown (host := "") (Or.inl (hw _ (List.mem_of_getElem? (i := 23) rfl))) Via.refl e0 F_bytes (g := (mkF m 1 #[.val (.ref d)] [(.ref d)])) rfl rfl (hb hby d7_1)
  refine own_st (fr' := (mkF m 4 #[.val (.ref d)] [(.ref a)])) st34 ?_
  refine own_st (fr' := (mkF m 5 #[.val (.ref d)] [(.ref d), (.ref a)])) (fun t k => XS.aloadN X34.here hx rfl (hb hby d7_4) rfl rfl k) ?_
  obtain ⟨T35, X35, e35, st35⟩ := getF X34 hx hZ hown (host := "") (Or.inl (hw _ (List.mem_of_getElem? (i := 29) rfl))) Via.refl e34 F_contentStart (g := (mkF m 5 #[.val (.ref d)] [(.ref d), (.ref a)])) rfl rfl (hb hby d7_5)
  refine own_st (fr' := (mkF m 8 #[.val (.ref d)] [(.int 2), (.ref a)])) st35 ?_
  refine own_st (fr' := (mkF m 9 #[.val (.ref d)] [(.ref d), (.int 2), (.ref a)])) (fun t k => XS.aloadN X35.here hx rfl (hb hby d7_8) rfl rfl k) ?_
  obtain ⟨T36, X36, e36, st36⟩ := getF X35 hx hZ hown (host := "") (Or.inl (hw _ (List.mem_of_getElem? (i := 31) rfl))) Via.refl e35 F_end (g := (mkF m 9 #[.val (.ref d)] [(.ref d), (.int 2), (.ref a)])) rfl rfl (hb hby d7_9)
  refine own_st (fr' := (mkF m 12 #[.val (.ref d)] [(.int 3), (.int 2), (.ref a)])) st36 ?_
  refine own_callS X36 hx hZ (y := (⟨"java/util/Arrays", "copyOfRange", "([BII)[B"⟩ : MethodName)) hown (hw _ (List.mem_of_getElem? (i := 38) rfl)) (hw _ (List.mem_of_getElem? (i := 39) rfl)) (hw _ (List.mem_of_getElem? (i := 40) rfl)) (hw _ (List.mem_of_getElem? (i := 41) rfl)) (by decide) (argsL := [(.ref a), (.int 2), (.int 3)]) (rest := []) (W := 0) (rm_cr1 l Z a0 hw [] a (2 : Int32) (3 : Int32) (3 : Int32) f h0 n0 Z0 VA EA ⟨by decide, by decide, by decide⟩ (by decide) (by decide)) e36 (by rw [hml]; rfl) (lenOf pd_2 rfl) rfl (Nat.le_of_eq rfl) (hb hby d7_12) (by decide) (by decide) (by decide) (by decide) ?_
  intro v37 T37 L37 X37 hQ37
  obtain ⟨⟨r, g, nl, rfl, hr, hnl, VR, hg⟩, Nq37, K37⟩ := hQ37
  have N37 := Fr.app N0 Nq37
  have enl : nl = (1 : Int32) := Int32.toInt_inj.mp (hnl.trans (by decide))
  subst enl
  exact own_retA X37 hx hlk hret rfl rfl (hb hby d7_15) (by decide) (by decide) (⟨⟨r, g, rfl, hr, VR, fun i hi => hg i (by show (i : Int) < (3 : Int) - 2; omega)⟩, N37, K37⟩)
theorem ef_enc1 (m : MethodId) (d : Addr) : entryFrame m #[(.ref d)] 1 = mkF m 0 #[.val (.ref d)] [] := by first | (simp [entryFrame, mkF, argsToLocals, Value.category, maxLocals]; done) | rfl
def Q_enc1 (Z : State) (d : Addr) (a : Addr) (f : Nat → Value) (h0 : Heap) (n0 : Nat) : Option Value → Heap → List Loc → Prop := fun v h L => (∃ r : Addr, v = some (.ref r) ∧ h0.size ≤ r ∧ own_A Z h r .byte 3 f) ∧ Fr n0 L ∧ Keep h0 h []
set_option maxRecDepth 65536 in
set_option maxHeartbeats 40000000 in
theorem rm_enc1 (l : Launch) (Z : State) (a0 : Array Value) (hw : ∀ d ∈ tables_1, d.before a0 Z = true) (ws : List Jvm.Cond) (d : Addr) (a : Addr) (f : Nat → Value) (h0 : Heap) (n0 : Nat) (Z0 : n0 ≤ h0.size) (F_bytes : Fld Z h0 d "com/example/linkvouch/linkvouch/apk/Der" "bytes" "[B" (.ref a)) (VA : own_A Z h0 a .byte 3 f) (EA : Exa Z h0 a "[B") (F_end : Fld Z h0 d "com/example/linkvouch/linkvouch/apk/Der" "end" "I" (.int 3)) (F_start : Fld Z h0 d "com/example/linkvouch/linkvouch/apk/Der" "start" "I" (.int 0)) :
    MetFree l (⟨"com/example/linkvouch/linkvouch/apk/Der", "encoded", "()[B"⟩ : MethodName) (head1 (Jvm.Cond.code (⟨"com/example/linkvouch/linkvouch/apk/Der", "encoded", "()[B"⟩ : MethodName) prog_30_method_8_code 1 (some (.array .byte)) :: ws) ({ frames := 2, cells := 1, slots := 304, locals := 60 } : Room)) (fun aX U => aX = #[(.ref d)] ∧ Z.Warmed39 U.vm ∧ U.heap = h0) (fun _ _ _ _ _ => True) (fun _ U o U' => ∃ v L, o = .returned v ∧ (Q_enc1 Z d a f h0 n0) v U'.heap L ∧ FrameEnd U o U' L ({ frames := 2, cells := 1, slots := 304, locals := 60 } : Room).cells ({ frames := 2, cells := 1, slots := 304, locals := 60 } : Room).slots) := by
  refine own_met (Q := (Q_enc1 Z d a f h0 n0)) (plainFor_of_name (x := (⟨"com/example/linkvouch/linkvouch/apk/Der", "encoded", "()[B"⟩ : MethodName)) pn_1) (fun m => ef_enc1 m d) ?_
  intro p e s m below meth cD s₁ hx hby hml hret hlk hZ hown hnm X0 e0 hs0
  have hown : s.vm.findClass "com/example/linkvouch/linkvouch/apk/Der" = some m.cls := hown
  have N0 := Fr.nil n0
  refine own_st (fr' := (mkF m 1 #[.val (.ref d)] [(.ref d)])) (fun t k => XS.aloadN X0.here hx rfl (hb hby d12_0) rfl rfl k) ?_
  obtain ⟨T38, X38, e38, st38⟩ := getF X0 hx hZ hown (host := "") (Or.inl (hw _ (List.mem_of_getElem? (i := 23) rfl))) Via.refl e0 F_bytes (g := (mkF m 1 #[.val (.ref d)] [(.ref d)])) rfl rfl (hb hby d12_1)
  refine own_st (fr' := (mkF m 4 #[.val (.ref d)] [(.ref a)])) st38 ?_
  refine own_st (fr' := (mkF m 5 #[.val (.ref d)] [(.ref d), (.ref a)])) (fun t k => XS.aloadN X38.here hx rfl (hb hby d12_4) rfl rfl k) ?_
  obtain ⟨T39, X39, e39, st39⟩ := getF X38 hx hZ hown (host := "") (Or.inl (hw _ (List.mem_of_getElem? (i := 27) rfl))) Via.refl e38 F_start (g := (mkF m 5 #[.val (.ref d)] [(.ref d), (.ref a)])) rfl rfl (hb hby d12_5)
  refine own_st (fr' := (mkF m 8 #[.val (.ref d)] [(.int 0), (.ref a)])) st39 ?_
  refine own_st (fr' := (mkF m 9 #[.val (.ref d)] [(.ref d), (.int 0), (.ref a)])) (fun t k => XS.aloadN X39.here hx rfl (hb hby d12_8) rfl rfl k) ?_
  obtain ⟨T40, X40, e40, st40⟩ := getF X39 hx hZ hown (host := "") (Or.inl (hw _ (List.mem_of_getElem? (i := 31) rfl))) Via.refl e39 F_end (g := (mkF m 9 #[.val (.ref d)] [(.ref d), (.int 0), (.ref a)])) rfl rfl (hb hby d12_9)
  refine own_st (fr' := (mkF m 12 #[.val (.ref d)] [(.int 3), (.int 0), (.ref a)])) st40 ?_
  refine own_callS X40 hx hZ (y := (⟨"java/util/Arrays", "copyOfRange", "([BII)[B"⟩ : MethodName)) hown (hw _ (List.mem_of_getElem? (i := 38) rfl)) (hw _ (List.mem_of_getElem? (i := 39) rfl)) (hw _ (List.mem_of_getElem? (i := 40) rfl)) (hw _ (List.mem_of_getElem? (i := 41) rfl)) (by decide) (argsL := [(.ref a), (.int 0), (.int 3)]) (rest := []) (W := 0) (rm_cr0 l Z a0 hw [] a (3 : Int32) f h0 n0 Z0 VA EA (by decide)) e40 (by rw [hml]; rfl) (lenOf pd_2 rfl) rfl (Nat.le_of_eq rfl) (hb hby d12_12) (by decide) (by decide) (by decide) (by decide) ?_
  intro v41 T41 L41 X41 hQ41
  obtain ⟨⟨r, rfl, hr, VR⟩, Nq41, K41⟩ := hQ41
  have N41 := Fr.app N0 Nq41
  exact own_retA X41 hx hlk hret rfl rfl (hb hby d12_15) (by decide) (by decide) (⟨⟨r, rfl, hr, VR⟩, N41, K41⟩)
theorem d1_13 : decode method_3_code 13 = .ok (.iload_n 0, 1) := by decide +kernel
theorem d1_14 : decode method_3_code 14 = .ok (.iconst 2, 1) := by decide +kernel
theorem d1_15 : decode method_3_code 15 = .ok (.if_icmp .ne 5, 3) := by decide +kernel
theorem d1_18 : decode method_3_code 18 = .ok (.iconst 3, 1) := by decide +kernel
theorem d1_19 : decode method_3_code 19 = .ok (.ireturn, 1) := by decide +kernel
theorem ef_len2 (m : MethodId)  : entryFrame m #[(.int 2)] 1 = mkF m 0 #[oI 2] [] := by first | (simp [entryFrame, mkF, argsToLocals, Value.category, maxLocals]; done) | rfl
def Q_len2 (Z : State)  (h0 : Heap) (n0 : Nat) : Option Value → Heap → List Loc → Prop := fun v h L => v = some (.int 3) ∧ Fr n0 L ∧ h = h0
set_option maxRecDepth 65536 in
set_option maxHeartbeats 40000000 in
theorem rm_len2 (l : Launch) (Z : State) (a0 : Array Value) (hw : ∀ d ∈ tables_1, d.before a0 Z = true) (ws : List Jvm.Cond)  (h0 : Heap) (n0 : Nat) (Z0 : n0 ≤ h0.size)  :
    MetFree l (⟨"com/example/linkvouch/linkvouch/apk/DerParsePinLaw", "lengthOf", "(I)I"⟩ : MethodName) (head1 (Jvm.Cond.code (⟨"com/example/linkvouch/linkvouch/apk/DerParsePinLaw", "lengthOf", "(I)I"⟩ : MethodName) method_3_code 1 (some .int) :: ws) ({ frames := 0, cells := 0, slots := 0, locals := 0 } : Room)) (fun aX U => aX = #[(.int 2)] ∧ Z.Warmed39 U.vm ∧ U.heap = h0) (fun _ _ _ _ _ => True) (fun _ U o U' => ∃ v L, o = .returned v ∧ (Q_len2 Z  h0 n0) v U'.heap L ∧ FrameEnd U o U' L ({ frames := 0, cells := 0, slots := 0, locals := 0 } : Room).cells ({ frames := 0, cells := 0, slots := 0, locals := 0 } : Room).slots) := by
  refine own_met (Q := (Q_len2 Z  h0 n0)) (plainFor_of_name (x := (⟨"com/example/linkvouch/linkvouch/apk/DerParsePinLaw", "lengthOf", "(I)I"⟩ : MethodName)) pn_2) (fun m => ef_len2 m ) ?_
  intro p e s m below meth cD s₁ hx hby hml hret hlk hZ hown hnm X0 e0 hs0
  have hown : s.vm.findClass "com/example/linkvouch/linkvouch/apk/DerParsePinLaw" = some m.cls := hown
  have N0 := Fr.nil n0
  refine own_st (fr' := (mkF m 1 #[oI 2] [(.int 2)])) (fun t k => XS.iloadN X0.here hx rfl (hb hby d1_0) rfl  k) ?_
  refine own_st (fr' := (mkF m 6 #[oI 2] [])) (fun t k => XS.ifYes X0.here hx rfl (pc0 := 1) (pc' := 6) rfl (hb hby d1_1) rfl ((if0 _ _).trans (own_feq (x := (2 : Int32)) (y := (0 : Int32)) (show ¬ 2 = 0 from by decide)).2) (by decide) (by decide) k) ?_
  refine own_st (fr' := (mkF m 7 #[oI 2] [(.int 2)])) (fun t k => XS.iloadN X0.here hx rfl (hb hby d1_6) rfl  k) ?_
  refine own_st (fr' := (mkF m 8 #[oI 2] [(.int 1), (.int 2)])) (fun t k => XS.iconst X0.here hx rfl (hb hby d1_7) k) ?_
  refine own_st (fr' := (mkF m 13 #[oI 2] [])) (fun t k => XS.icmpYes X0.here hx rfl (pc0 := 8) (pc' := 13) rfl (hb hby d1_8) rfl (own_feq (x := (2 : Int32)) (y := (1 : Int32)) (show ¬ 2 = 1 from by decide)).2 (by decide) (by decide) k) ?_
  refine own_st (fr' := (mkF m 14 #[oI 2] [(.int 2)])) (fun t k => XS.iloadN X0.here hx rfl (hb hby d1_13) rfl  k) ?_
  refine own_st (fr' := (mkF m 15 #[oI 2] [(.int 2), (.int 2)])) (fun t k => XS.iconst X0.here hx rfl (hb hby d1_14) k) ?_
  refine own_st (fr' := (mkF m 18 #[oI 2] [])) (fun t k => XS.icmpNo X0.here hx rfl (hb hby d1_15) rfl (own_teq (x := (2 : Int32)) (y := (2 : Int32)) (show 2 = 2 from by decide)).2 k) ?_
  refine own_st (fr' := (mkF m 19 #[oI 2] [(.int 3)])) (fun t k => XS.iconst X0.here hx rfl (hb hby d1_18) k) ?_
  exact own_retI X0 hx hlk hret (hb hby d1_19) (by decide) (by decide) (⟨rfl, N0, e0⟩)
theorem d2_17 : decode method_2_code 17 = .ok (.iload_n 0, 1) := by decide +kernel
theorem d2_18 : decode method_2_code 18 = .ok (.iconst 2, 1) := by decide +kernel
theorem d2_19 : decode method_2_code 19 = .ok (.if_icmp .ne 7, 3) := by decide +kernel
theorem d2_22 : decode method_2_code 22 = .ok (.iconst 5, 1) := by decide +kernel
theorem d2_23 : decode method_2_code 23 = .ok (.newarray .byte, 2) := by decide +kernel
theorem d2_25 : decode method_2_code 25 = .ok (.areturn, 1) := by decide +kernel
theorem ef_alloc2 (m : MethodId)  : entryFrame m #[(.int 2)] 1 = mkF m 0 #[oI 2] [] := by first | (simp [entryFrame, mkF, argsToLocals, Value.category, maxLocals]; done) | rfl
def Q_alloc2 (Z : State)  (h0 : Heap) (n0 : Nat) : Option Value → Heap → List Loc → Prop := fun v h L => (∃ r : Addr, v = some (.ref r) ∧ h0.size ≤ r ∧ n0 ≤ r ∧ own_A Z h r .byte 5 (fun _ => .int 0) ∧ Exa Z h r "[B") ∧ Fr n0 L ∧ Keep h0 h []
set_option maxRecDepth 65536 in
set_option maxHeartbeats 40000000 in
theorem rm_alloc2 (l : Launch) (Z : State) (a0 : Array Value) (hw : ∀ d ∈ tables_1, d.before a0 Z = true) (ws : List Jvm.Cond)  (h0 : Heap) (n0 : Nat) (Z0 : n0 ≤ h0.size)  :
    MetFree l (⟨"com/example/linkvouch/linkvouch/apk/DerParsePinLaw", "alloc", "(I)[B"⟩ : MethodName) (head1 (Jvm.Cond.code (⟨"com/example/linkvouch/linkvouch/apk/DerParsePinLaw", "alloc", "(I)[B"⟩ : MethodName) method_2_code 1 (some (.array .byte)) :: ws) ({ frames := 0, cells := 1, slots := 5, locals := 0 } : Room)) (fun aX U => aX = #[(.int 2)] ∧ Z.Warmed39 U.vm ∧ U.heap = h0) (fun _ _ _ _ _ => True) (fun _ U o U' => ∃ v L, o = .returned v ∧ (Q_alloc2 Z  h0 n0) v U'.heap L ∧ FrameEnd U o U' L ({ frames := 0, cells := 1, slots := 5, locals := 0 } : Room).cells ({ frames := 0, cells := 1, slots := 5, locals := 0 } : Room).slots) := by
  refine own_met (Q := (Q_alloc2 Z  h0 n0)) (plainFor_of_name (x := (⟨"com/example/linkvouch/linkvouch/apk/DerParsePinLaw", "alloc", "(I)[B"⟩ : MethodName)) pn_2) (fun m => ef_alloc2 m ) ?_
  intro p e s m below meth cD s₁ hx hby hml hret hlk hZ hown hnm X0 e0 hs0
  have hown : s.vm.findClass "com/example/linkvouch/linkvouch/apk/DerParsePinLaw" = some m.cls := hown
  have N0 := Fr.nil n0
  refine own_st (fr' := (mkF m 1 #[oI 2] [(.int 2)])) (fun t k => XS.iloadN X0.here hx rfl (hb hby d2_0) rfl  k) ?_
  refine own_st (fr' := (mkF m 8 #[oI 2] [])) (fun t k => XS.ifYes X0.here hx rfl (pc0 := 1) (pc' := 8) rfl (hb hby d2_1) rfl ((if0 _ _).trans (own_feq (x := (2 : Int32)) (y := (0 : Int32)) (show ¬ 2 = 0 from by decide)).2) (by decide) (by decide) k) ?_
  refine own_st (fr' := (mkF m 9 #[oI 2] [(.int 2)])) (fun t k => XS.iloadN X0.here hx rfl (hb hby d2_8) rfl  k) ?_
  refine own_st (fr' := (mkF m 10 #[oI 2] [(.int 1), (.int 2)])) (fun t k => XS.iconst X0.here hx rfl (hb hby d2_9) k) ?_
  refine own_st (fr' := (mkF m 17 #[oI 2] [])) (fun t k => XS.icmpYes X0.here hx rfl (pc0 := 10) (pc' := 17) rfl (hb hby d2_10) rfl (own_feq (x := (2 : Int32)) (y := (1 : Int32)) (show ¬ 2 = 1 from by decide)).2 (by decide) (by decide) k) ?_
  refine own_st (fr' := (mkF m 18 #[oI 2] [(.int 2)])) (fun t k => XS.iloadN X0.here hx rfl (hb hby d2_17) rfl  k) ?_
  refine own_st (fr' := (mkF m 19 #[oI 2] [(.int 2), (.int 2)])) (fun t k => XS.iconst X0.here hx rfl (hb hby d2_18) k) ?_
  refine own_st (fr' := (mkF m 22 #[oI 2] [])) (fun t k => XS.icmpNo X0.here hx rfl (hb hby d2_19) rfl (own_teq (x := (2 : Int32)) (y := (2 : Int32)) (show 2 = 2 from by decide)).2 k) ?_
  refine own_st (fr' := (mkF m 23 #[oI 2] [(.int 5)])) (fun t k => XS.iconst X0.here hx rfl (hb hby d2_22) k) ?_
  refine own_newarrE X0 hx hZ (hw _ (List.mem_of_getElem? (i := 7) rfl)) e0 (hb hby d2_23) (by decide) (cap := 5) (by decide) (by decide) (by decide) (by decide) rfl (C := "[B") rfl ?_
  intro T42 h42 b42 g42 X42 e42 E42 VA42 EX42
  have V42 := own_B.new VA42
  have ge_b42 : n0 ≤ b42 := Nat.le_trans Z0 (Nat.le_of_eq g42.symm)
  have sz_b42 : h0.size ≤ b42 := Nat.le_trans (Nat.le_refl _) (Nat.le_of_eq g42.symm)
  exact own_retA X42 hx hlk hret rfl rfl (hb hby d2_25) (by decide) (by decide) (by rw [e42]; exact ⟨⟨b42, rfl, sz_b42, ge_b42, VA42, EX42⟩, N0, (Keep.ext (Keep.refl h0 []) E42)⟩)
theorem ef_read2 (m : MethodId) (a : Addr) : entryFrame m #[(.ref a), (.int 0), (.int 5)] 10 = mkF m 0 #[.val (.ref a), oI 0, oI 5, .unset, .unset, .unset, .unset, .unset, .unset, .unset] [] := by first | (simp [entryFrame, mkF, argsToLocals, Value.category, maxLocals]; done) | rfl
def Q_read2 (Z : State) (a : Addr) (t' : Int32) (f : Nat → Value) (h0 : Heap) (n0 : Nat) : Option Value → Heap → List Loc → Prop := fun v h L => (∃ d : Addr, v = some (.ref d) ∧ h0.size ≤ d ∧ Exa Z h d "com/example/linkvouch/linkvouch/apk/Der" ∧ Fld Z h d "com/example/linkvouch/linkvouch/apk/Der" "bytes" "[B" (.ref a) ∧ Fld Z h d "com/example/linkvouch/linkvouch/apk/Der" "tag" "I" (.int (t' &&& 255)) ∧ Fld Z h d "com/example/linkvouch/linkvouch/apk/Der" "start" "I" (.int 0) ∧ Fld Z h d "com/example/linkvouch/linkvouch/apk/Der" "contentStart" "I" (.int 2) ∧ Fld Z h d "com/example/linkvouch/linkvouch/apk/Der" "end" "I" (.int 5)) ∧ Fr n0 L ∧ Keep h0 h []
set_option maxRecDepth 65536 in
set_option maxHeartbeats 40000000 in
theorem rm_read2 (l : Launch) (Z : State) (a0 : Array Value) (hw : ∀ d ∈ tables_1, d.before a0 Z = true) (ws : List Jvm.Cond) (a : Addr) (t' : Int32) (f : Nat → Value) (h0 : Heap) (n0 : Nat) (Z0 : n0 ≤ h0.size) (VA : own_A Z h0 a .byte 5 f) (h_0 : f 0 = .int t') (h_1 : f 1 = .int (3)) (htag : ¬ ((t' &&& 255) &&& 31).toInt = 31) :
    MetFree l (⟨"com/example/linkvouch/linkvouch/apk/Der", "read", "([BII)Lcom/example/linkvouch/linkvouch/apk/Der;"⟩ : MethodName) (head1 (Jvm.Cond.code (⟨"com/example/linkvouch/linkvouch/apk/Der", "read", "([BII)Lcom/example/linkvouch/linkvouch/apk/Der;"⟩ : MethodName) prog_30_method_3_code 10 (some (.object "com/example/linkvouch/linkvouch/apk/Der")) :: ws) ({ frames := 2, cells := 1, slots := 5, locals := 40 } : Room)) (fun aX U => aX = #[(.ref a), (.int 0), (.int 5)] ∧ Z.Warmed39 U.vm ∧ U.heap = h0) (fun _ _ _ _ _ => True) (fun _ U o U' => ∃ v L, o = .returned v ∧ (Q_read2 Z a t' f h0 n0) v U'.heap L ∧ FrameEnd U o U' L ({ frames := 2, cells := 1, slots := 5, locals := 40 } : Room).cells ({ frames := 2, cells := 1, slots := 5, locals := 40 } : Room).slots) := by
  refine own_met (Q := (Q_read2 Z a t' f h0 n0)) (plainFor_of_name (x := (⟨"com/example/linkvouch/linkvouch/apk/Der", "read", "([BII)Lcom/example/linkvouch/linkvouch/apk/Der;"⟩ : MethodName)) pn_1) (fun m => ef_read2 m a) ?_
  intro p e s m below meth cD s₁ hx hby hml hret hlk hZ hown hnm X0 e0 hs0
  have hown : s.vm.findClass "com/example/linkvouch/linkvouch/apk/Der" = some m.cls := hown
  have N0 := Fr.nil n0
  refine own_st (fr' := (mkF m 1 #[.val (.ref a), oI 0, oI 5, .unset, .unset, .unset, .unset, .unset, .unset, .unset] [(.int 5)])) (fun t k => XS.iloadN X0.here hx rfl (hb hby d4_0) rfl  k) ?_
  refine own_st (fr' := (mkF m 2 #[.val (.ref a), oI 0, oI 5, .unset, .unset, .unset, .unset, .unset, .unset, .unset] [(.int 0), (.int 5)])) (fun t k => XS.iloadN X0.here hx rfl (hb hby d4_1) rfl  k) ?_
  refine own_st (fr' := (mkF m 3 #[.val (.ref a), oI 0, oI 5, .unset, .unset, .unset, .unset, .unset, .unset, .unset] [(.int 5)])) (fun t k => XS.isub X0.here hx rfl (hb hby d4_2) rfl k) ?_
  refine own_st (fr' := (mkF m 4 #[.val (.ref a), oI 0, oI 5, .unset, .unset, .unset, .unset, .unset, .unset, .unset] [(.int 2), (.int 5)])) (fun t k => XS.iconst X0.here hx rfl (hb hby d4_3) k) ?_
  refine own_st (fr' := (mkF m 17 #[.val (.ref a), oI 0, oI 5, .unset, .unset, .unset, .unset, .unset, .unset, .unset] [])) (fun t k => XS.icmpYes X0.here hx rfl (pc0 := 4) (pc' := 17) rfl (hb hby d4_4) rfl (own_flt (x := (5 : Int32)) (y := (2 : Int32)) (show ¬ 5 < 2 from by decide)).2.1 (by decide) (by decide) k) ?_
  refine own_st (fr' := (mkF m 18 #[.val (.ref a), oI 0, oI 5, .unset, .unset, .unset, .unset, .unset, .unset, .unset] [(.ref a)])) (fun t k => XS.aloadN X0.here hx rfl (hb hby d4_17) rfl rfl k) ?_
  refine own_st (fr' := (mkF m 19 #[.val (.ref a), oI 0, oI 5, .unset, .unset, .unset, .unset, .unset, .unset, .unset] [(.int 0), (.ref a)])) (fun t k => XS.iloadN X0.here hx rfl (hb hby d4_18) rfl  k) ?_
  refine own_baload (j := (0 : Int32)) X0 hx hZ e0 VA (by decide) (by decide) (v := (.int t')) (h_0) (hb hby d4_19) ?_
  refine own_st (fr' := (mkF m 23 #[.val (.ref a), oI 0, oI 5, .unset, .unset, .unset, .unset, .unset, .unset, .unset] [(.int 255), (.int t')])) (fun t k => XS.sipush X0.here hx rfl (hb hby d4_20) k) ?_
  refine own_st (fr' := (mkF m 24 #[.val (.ref a), oI 0, oI 5, .unset, .unset, .unset, .unset, .unset, .unset, .unset] [(.int (t' &&& (255 : Int32)))])) (fun t k => XS.iand X0.here hx rfl (hb hby d4_23) rfl k) ?_
  refine own_st (fr' := (mkF m 25 #[.val (.ref a), oI 0, oI 5, .val (.int (t' &&& (255 : Int32))), .unset, .unset, .unset, .unset, .unset, .unset] [])) (fun t k => XS.istoreN X0.here hx rfl (hb hby d4_24) rfl  (l' := #[.val (.ref a), oI 0, oI 5, .val (.int (t' &&& (255 : Int32))), .unset, .unset, .unset, .unset, .unset, .unset]) rfl k) ?_
  refine own_st (fr' := (mkF m 26 #[.val (.ref a), oI 0, oI 5, .val (.int (t' &&& (255 : Int32))), .unset, .unset, .unset, .unset, .unset, .unset] [(.int (t' &&& (255 : Int32)))])) (fun t k => XS.iloadN X0.here hx rfl (hb hby d4_25) rfl  k) ?_
  refine own_st (fr' := (mkF m 28 #[.val (.ref a), oI 0, oI 5, .val (.int (t' &&& (255 : Int32))), .unset, .unset, .unset, .unset, .unset, .unset] [(.int 31), (.int (t' &&& (255 : Int32)))])) (fun t k => XS.bipush X0.here hx rfl (hb hby d4_26) k) ?_
  refine own_st (fr' := (mkF m 29 #[.val (.ref a), oI 0, oI 5, .val (.int (t' &&& (255 : Int32))), .unset, .unset, .unset, .unset, .unset, .unset] [(.int ((t' &&& (255 : Int32)) &&& (31 : Int32)))])) (fun t k => XS.iand X0.here hx rfl (hb hby d4_28) rfl k) ?_
  refine own_st (fr' := (mkF m 31 #[.val (.ref a), oI 0, oI 5, .val (.int (t' &&& (255 : Int32))), .unset, .unset, .unset, .unset, .unset, .unset] [(.int 31), (.int ((t' &&& (255 : Int32)) &&& (31 : Int32)))])) (fun t k => XS.bipush X0.here hx rfl (hb hby d4_29) k) ?_
  refine own_st (fr' := (mkF m 44 #[.val (.ref a), oI 0, oI 5, .val (.int (t' &&& (255 : Int32))), .unset, .unset, .unset, .unset, .unset, .unset] [])) (fun t k => XS.icmpYes X0.here hx rfl (pc0 := 31) (pc' := 44) rfl (hb hby d4_31) rfl (own_feq (x := ((t' &&& (255 : Int32)) &&& (31 : Int32))) (y := (31 : Int32)) (show ¬ ((t' &&& (255 : Int32)) &&& (31 : Int32)).toInt = 31 from htag)).2 (by decide) (by decide) k) ?_
  refine own_st (fr' := (mkF m 45 #[.val (.ref a), oI 0, oI 5, .val (.int (t' &&& (255 : Int32))), .unset, .unset, .unset, .unset, .unset, .unset] [(.ref a)])) (fun t k => XS.aloadN X0.here hx rfl (hb hby d4_44) rfl rfl k) ?_
  refine own_st (fr' := (mkF m 46 #[.val (.ref a), oI 0, oI 5, .val (.int (t' &&& (255 : Int32))), .unset, .unset, .unset, .unset, .unset, .unset] [(.int 0), (.ref a)])) (fun t k => XS.iloadN X0.here hx rfl (hb hby d4_45) rfl  k) ?_
  refine own_st (fr' := (mkF m 47 #[.val (.ref a), oI 0, oI 5, .val (.int (t' &&& (255 : Int32))), .unset, .unset, .unset, .unset, .unset, .unset] [(.int 1), (.int 0), (.ref a)])) (fun t k => XS.iconst X0.here hx rfl (hb hby d4_46) k) ?_
  refine own_st (fr' := (mkF m 48 #[.val (.ref a), oI 0, oI 5, .val (.int (t' &&& (255 : Int32))), .unset, .unset, .unset, .unset, .unset, .unset] [(.int 1), (.ref a)])) (fun t k => XS.iadd X0.here hx rfl (hb hby d4_47) rfl k) ?_
  refine own_baload (j := (1 : Int32)) X0 hx hZ e0 VA (by decide) (by decide) (v := (.int 3)) (h_1) (hb hby d4_48) ?_
  refine own_st (fr' := (mkF m 52 #[.val (.ref a), oI 0, oI 5, .val (.int (t' &&& (255 : Int32))), .unset, .unset, .unset, .unset, .unset, .unset] [(.int 255), (.int 3)])) (fun t k => XS.sipush X0.here hx rfl (hb hby d4_49) k) ?_
  refine own_st (fr' := (mkF m 53 #[.val (.ref a), oI 0, oI 5, .val (.int (t' &&& (255 : Int32))), .unset, .unset, .unset, .unset, .unset, .unset] [(.int 3)])) (fun t k => XS.iand X0.here hx rfl (hb hby d4_52) rfl k) ?_
  refine own_st (fr' := (mkF m 55 #[.val (.ref a), oI 0, oI 5, .val (.int (t' &&& (255 : Int32))), oI 3, .unset, .unset, .unset, .unset, .unset] [])) (fun t k => XS.istore X0.here hx rfl (hb hby d4_53) rfl  (l' := #[.val (.ref a), oI 0, oI 5, .val (.int (t' &&& (255 : Int32))), oI 3, .unset, .unset, .unset, .unset, .unset]) rfl k) ?_
  refine own_st (fr' := (mkF m 56 #[.val (.ref a), oI 0, oI 5, .val (.int (t' &&& (255 : Int32))), oI 3, .unset, .unset, .unset, .unset, .unset] [(.int 0)])) (fun t k => XS.iloadN X0.here hx rfl (hb hby d4_55) rfl  k) ?_
  refine own_st (fr' := (mkF m 57 #[.val (.ref a), oI 0, oI 5, .val (.int (t' &&& (255 : Int32))), oI 3, .unset, .unset, .unset, .unset, .unset] [(.int 2), (.int 0)])) (fun t k => XS.iconst X0.here hx rfl (hb hby d4_56) k) ?_
  refine own_st (fr' := (mkF m 58 #[.val (.ref a), oI 0, oI 5, .val (.int (t' &&& (255 : Int32))), oI 3, .unset, .unset, .unset, .unset, .unset] [(.int 2)])) (fun t k => XS.iadd X0.here hx rfl (hb hby d4_57) rfl k) ?_
  refine own_st (fr' := (mkF m 60 #[.val (.ref a), oI 0, oI 5, .val (.int (t' &&& (255 : Int32))), oI 3, oI 2, .unset, .unset, .unset, .unset] [])) (fun t k => XS.istore X0.here hx rfl (hb hby d4_58) rfl  (l' := #[.val (.ref a), oI 0, oI 5, .val (.int (t' &&& (255 : Int32))), oI 3, oI 2, .unset, .unset, .unset, .unset]) rfl k) ?_
  refine own_st (fr' := (mkF m 62 #[.val (.ref a), oI 0, oI 5, .val (.int (t' &&& (255 : Int32))), oI 3, oI 2, .unset, .unset, .unset, .unset] [(.int 3)])) (fun t k => XS.iload X0.here hx rfl (hb hby d4_60) rfl  k) ?_
  refine own_st (fr' := (mkF m 63 #[.val (.ref a), oI 0, oI 5, .val (.int (t' &&& (255 : Int32))), oI 3, oI 2, .unset, .unset, .unset, .unset] [(.long (3 : Int64))])) (fun t k => XS.i2l X0.here hx rfl (hb hby d4_62) rfl k) ?_
  refine own_st (fr' := (mkF m 65 #[.val (.ref a), oI 0, oI 5, .val (.int (t' &&& (255 : Int32))), oI 3, oI 2, .val (.long (3 : Int64)), .second, .unset, .unset] [])) (fun t k => XS.lstore X0.here hx rfl (hb hby d4_63) rfl  (l' := #[.val (.ref a), oI 0, oI 5, .val (.int (t' &&& (255 : Int32))), oI 3, oI 2, .val (.long (3 : Int64)), .second, .unset, .unset]) rfl k) ?_
  refine own_st (fr' := (mkF m 67 #[.val (.ref a), oI 0, oI 5, .val (.int (t' &&& (255 : Int32))), oI 3, oI 2, .val (.long (3 : Int64)), .second, .unset, .unset] [(.int 3)])) (fun t k => XS.iload X0.here hx rfl (hb hby d4_65) rfl  k) ?_
  refine own_st (fr' := (mkF m 70 #[.val (.ref a), oI 0, oI 5, .val (.int (t' &&& (255 : Int32))), oI 3, oI 2, .val (.long (3 : Int64)), .second, .unset, .unset] [(.int 128), (.int 3)])) (fun t k => XS.sipush X0.here hx rfl (hb hby d4_67) k) ?_
  refine own_st (fr' := (mkF m 156 #[.val (.ref a), oI 0, oI 5, .val (.int (t' &&& (255 : Int32))), oI 3, oI 2, .val (.long (3 : Int64)), .second, .unset, .unset] [])) (fun t k => XS.icmpYes X0.here hx rfl (pc0 := 70) (pc' := 156) rfl (hb hby d4_70) rfl (own_tlt (x := (3 : Int32)) (y := (128 : Int32)) (show 3 < 128 from by decide)).1 (by decide) (by decide) k) ?_
  refine own_st (fr' := (mkF m 158 #[.val (.ref a), oI 0, oI 5, .val (.int (t' &&& (255 : Int32))), oI 3, oI 2, .val (.long (3 : Int64)), .second, .unset, .unset] [(.long (3 : Int64))])) (fun t k => XS.lload X0.here hx rfl (hb hby d4_156) rfl  k) ?_
  refine own_st (fr' := (mkF m 159 #[.val (.ref a), oI 0, oI 5, .val (.int (t' &&& (255 : Int32))), oI 3, oI 2, .val (.long (3 : Int64)), .second, .unset, .unset] [(.int 5), (.long (3 : Int64))])) (fun t k => XS.iloadN X0.here hx rfl (hb hby d4_158) rfl  k) ?_
  refine own_st (fr' := (mkF m 161 #[.val (.ref a), oI 0, oI 5, .val (.int (t' &&& (255 : Int32))), oI 3, oI 2, .val (.long (3 : Int64)), .second, .unset, .unset] [(.int 2), (.int 5), (.long (3 : Int64))])) (fun t k => XS.iload X0.here hx rfl (hb hby d4_159) rfl  k) ?_
  refine own_st (fr' := (mkF m 162 #[.val (.ref a), oI 0, oI 5, .val (.int (t' &&& (255 : Int32))), oI 3, oI 2, .val (.long (3 : Int64)), .second, .unset, .unset] [(.int 3), (.long (3 : Int64))])) (fun t k => XS.isub X0.here hx rfl (hb hby d4_161) rfl k) ?_
  refine own_st (fr' := (mkF m 163 #[.val (.ref a), oI 0, oI 5, .val (.int (t' &&& (255 : Int32))), oI 3, oI 2, .val (.long (3 : Int64)), .second, .unset, .unset] [(.long (3 : Int64)), (.long (3 : Int64))])) (fun t k => XS.i2l X0.here hx rfl (hb hby d4_162) rfl k) ?_
  refine own_st (fr' := (mkF m 164 #[.val (.ref a), oI 0, oI 5, .val (.int (t' &&& (255 : Int32))), oI 3, oI 2, .val (.long (3 : Int64)), .second, .unset, .unset] [(.int (lcmpW (3 : Int64) (3 : Int64)))])) (fun t k => XS.lcmp X0.here hx rfl (hb hby d4_163) rfl k) ?_
  refine own_st (fr' := (mkF m 177 #[.val (.ref a), oI 0, oI 5, .val (.int (t' &&& (255 : Int32))), oI 3, oI 2, .val (.long (3 : Int64)), .second, .unset, .unset] [])) (fun t k => XS.ifYes X0.here hx rfl (pc0 := 164) (pc' := 177) rfl (hb hby d4_164) rfl (own_fgtL (x := (3 : Int64)) (y := (3 : Int64)) (show ¬ 3 < 3 from by decide)).2 (by decide) (by decide) k) ?_
  obtain ⟨T43, h43, X43, e43, E43, A43, D43, -, st43⟩ := newO X0 hx hZ hown (hw _ (List.mem_of_getElem? (i := 15) rfl)) (hw _ (List.mem_of_getElem? (i := 16) rfl)) (hw _ (List.mem_of_getElem? (i := 10) rfl)) e0 (g := (mkF m 177 #[.val (.ref a), oI 0, oI 5, .val (.int (t' &&& (255 : Int32))), oI 3, oI 2, .val (.long (3 : Int64)), .second, .unset, .unset] [])) rfl (hb hby d4_177) (by decide) (by decide)
  obtain ⟨b43, g43⟩ : ∃ z, z = h0.size := ⟨_, rfl⟩
  rw [← g43] at A43 D43 st43
  have lt43_a : a < b43 := Nat.lt_of_lt_of_eq VA.lt g43.symm
  have ne43_a : a ≠ b43 := Nat.ne_of_lt lt43_a
  have ge_b43 : n0 ≤ b43 := Nat.le_trans Z0 (Nat.le_of_eq g43.symm)
  have sz_b43 : h0.size ≤ b43 := Nat.le_trans (Nat.le_refl _) (Nat.le_of_eq g43.symm)
  have F43_bytes : Fld Z h43 b43 "com/example/linkvouch/linkvouch/apk/Der" "bytes" "[B" .null := D43 (Or.inr (hw _ (List.mem_of_getElem? (i := 24) rfl))) (ty := (.array .byte)) (by decide)
  have F43_tag : Fld Z h43 b43 "com/example/linkvouch/linkvouch/apk/Der" "tag" "I" (.int 0) := D43 (Or.inr (hw _ (List.mem_of_getElem? (i := 26) rfl))) (ty := .int) (by decide)
  have F43_start : Fld Z h43 b43 "com/example/linkvouch/linkvouch/apk/Der" "start" "I" (.int 0) := D43 (Or.inr (hw _ (List.mem_of_getElem? (i := 28) rfl))) (ty := .int) (by decide)
  have F43_contentStart : Fld Z h43 b43 "com/example/linkvouch/linkvouch/apk/Der" "contentStart" "I" (.int 0) := D43 (Or.inr (hw _ (List.mem_of_getElem? (i := 30) rfl))) (ty := .int) (by decide)
  have F43_end : Fld Z h43 b43 "com/example/linkvouch/linkvouch/apk/Der" "end" "I" (.int 0) := D43 (Or.inr (hw _ (List.mem_of_getElem? (i := 32) rfl))) (ty := .int) (by decide)
  refine own_st (fr' := (mkF m 180 #[.val (.ref a), oI 0, oI 5, .val (.int (t' &&& (255 : Int32))), oI 3, oI 2, .val (.long (3 : Int64)), .second, .unset, .unset] [(.ref b43)])) st43 ?_
  refine own_st (fr' := (mkF m 181 #[.val (.ref a), oI 0, oI 5, .val (.int (t' &&& (255 : Int32))), oI 3, oI 2, .val (.long (3 : Int64)), .second, .unset, .unset] [(.ref b43), (.ref b43)])) (fun t k => XS.dup X43.here hx rfl (hb hby d4_180) rfl rfl k) ?_
  refine own_st (fr' := (mkF m 182 #[.val (.ref a), oI 0, oI 5, .val (.int (t' &&& (255 : Int32))), oI 3, oI 2, .val (.long (3 : Int64)), .second, .unset, .unset] [(.ref a), (.ref b43), (.ref b43)])) (fun t k => XS.aloadN X43.here hx rfl (hb hby d4_181) rfl rfl k) ?_
  refine own_st (fr' := (mkF m 183 #[.val (.ref a), oI 0, oI 5, .val (.int (t' &&& (255 : Int32))), oI 3, oI 2, .val (.long (3 : Int64)), .second, .unset, .unset] [(.int (t' &&& (255 : Int32))), (.ref a), (.ref b43), (.ref b43)])) (fun t k => XS.iloadN X43.here hx rfl (hb hby d4_182) rfl  k) ?_
  refine own_st (fr' := (mkF m 184 #[.val (.ref a), oI 0, oI 5, .val (.int (t' &&& (255 : Int32))), oI 3, oI 2, .val (.long (3 : Int64)), .second, .unset, .unset] [(.int 0), (.int (t' &&& (255 : Int32))), (.ref a), (.ref b43), (.ref b43)])) (fun t k => XS.iloadN X43.here hx rfl (hb hby d4_183) rfl  k) ?_
  refine own_st (fr' := (mkF m 186 #[.val (.ref a), oI 0, oI 5, .val (.int (t' &&& (255 : Int32))), oI 3, oI 2, .val (.long (3 : Int64)), .second, .unset, .unset] [(.int 2), (.int 0), (.int (t' &&& (255 : Int32))), (.ref a), (.ref b43), (.ref b43)])) (fun t k => XS.iload X43.here hx rfl (hb hby d4_184) rfl  k) ?_
  refine own_st (fr' := (mkF m 188 #[.val (.ref a), oI 0, oI 5, .val (.int (t' &&& (255 : Int32))), oI 3, oI 2, .val (.long (3 : Int64)), .second, .unset, .unset] [(.int 2), (.int 2), (.int 0), (.int (t' &&& (255 : Int32))), (.ref a), (.ref b43), (.ref b43)])) (fun t k => XS.iload X43.here hx rfl (hb hby d4_186) rfl  k) ?_
  refine own_st (fr' := (mkF m 190 #[.val (.ref a), oI 0, oI 5, .val (.int (t' &&& (255 : Int32))), oI 3, oI 2, .val (.long (3 : Int64)), .second, .unset, .unset] [(.long (3 : Int64)), (.int 2), (.int 2), (.int 0), (.int (t' &&& (255 : Int32))), (.ref a), (.ref b43), (.ref b43)])) (fun t k => XS.lload X43.here hx rfl (hb hby d4_188) rfl  k) ?_
  refine own_st (fr' := (mkF m 191 #[.val (.ref a), oI 0, oI 5, .val (.int (t' &&& (255 : Int32))), oI 3, oI 2, .val (.long (3 : Int64)), .second, .unset, .unset] [(.int 3), (.int 2), (.int 2), (.int 0), (.int (t' &&& (255 : Int32))), (.ref a), (.ref b43), (.ref b43)])) (fun t k => XS.l2i X43.here hx rfl (hb hby d4_190) rfl k) ?_
  refine own_st (fr' := (mkF m 192 #[.val (.ref a), oI 0, oI 5, .val (.int (t' &&& (255 : Int32))), oI 3, oI 2, .val (.long (3 : Int64)), .second, .unset, .unset] [(.int 5), (.int 2), (.int 0), (.int (t' &&& (255 : Int32))), (.ref a), (.ref b43), (.ref b43)])) (fun t k => XS.iadd X43.here hx rfl (hb hby d4_191) rfl k) ?_
  refine own_callN X43 hx hZ (y := (⟨"com/example/linkvouch/linkvouch/apk/Der", "<init>", "([BIIII)V"⟩ : MethodName)) hown rfl (hw _ (List.mem_of_getElem? (i := 17) rfl)) (hw _ (List.mem_of_getElem? (i := 18) rfl)) (hw _ (List.mem_of_getElem? (i := 10) rfl)) (hw _ (List.mem_of_getElem? (i := 19) rfl)) (by decide) (a := b43) (argsL := [(.ref a), (.int (t' &&& (255 : Int32))), (.int 0), (.int 2), (.int 5)]) (rest := [(.ref b43)]) (W := 1) (rm_dinit l Z a0 hw [] b43 a (t' &&& (255 : Int32)) (0 : Int32) (2 : Int32) (5 : Int32) h43 n0 (Nat.le_trans Z0 E43.1) F43_bytes F43_tag F43_start F43_contentStart F43_end A43 ge_b43) e43 (by rw [hml]; rfl) (lenOf pd_3 rfl) rfl (Nat.le_of_eq rfl) (hb hby d4_192) (by decide) (by decide) (by decide) (by decide) ?_
  intro v44 T44 L44 X44 hQ44
  obtain ⟨rfl, Nq44, K44, Fc44_0, Fc44_1, Fc44_2, Fc44_3, Fc44_4⟩ := hQ44
  have N44 := Fr.app N0 Nq44
  exact own_retA X44 hx hlk hret rfl rfl (hb hby d4_195) (by decide) (by decide) (⟨⟨b43, rfl, sz_b43, (A43.keep K44), Fc44_0, Fc44_1, Fc44_2, Fc44_3, Fc44_4⟩, N44, (Keep.trans (Keep.ext (Keep.refl h0 []) E43) K44 (allS (Or.inr sz_b43) all0))⟩)
theorem ef_parse2 (m : MethodId) (a : Addr) : entryFrame m #[(.ref a)] 2 = mkF m 0 #[.val (.ref a), .unset] [] := by first | (simp [entryFrame, mkF, argsToLocals, Value.category, maxLocals]; done) | rfl
def Q_parse2 (Z : State) (a : Addr) (t' : Int32) (f : Nat → Value) (h0 : Heap) (n0 : Nat) : Option Value → Heap → List Loc → Prop := fun v h L => (∃ d : Addr, v = some (.ref d) ∧ h0.size ≤ d ∧ Exa Z h d "com/example/linkvouch/linkvouch/apk/Der" ∧ Fld Z h d "com/example/linkvouch/linkvouch/apk/Der" "bytes" "[B" (.ref a) ∧ Fld Z h d "com/example/linkvouch/linkvouch/apk/Der" "tag" "I" (.int (t' &&& 255)) ∧ Fld Z h d "com/example/linkvouch/linkvouch/apk/Der" "start" "I" (.int 0) ∧ Fld Z h d "com/example/linkvouch/linkvouch/apk/Der" "contentStart" "I" (.int 2) ∧ Fld Z h d "com/example/linkvouch/linkvouch/apk/Der" "end" "I" (.int 5)) ∧ Fr n0 L ∧ Keep h0 h []
set_option maxRecDepth 65536 in
set_option maxHeartbeats 40000000 in
theorem rm_parse2 (l : Launch) (Z : State) (a0 : Array Value) (hw : ∀ d ∈ tables_1, d.before a0 Z = true) (ws : List Jvm.Cond) (a : Addr) (t' : Int32) (f : Nat → Value) (h0 : Heap) (n0 : Nat) (Z0 : n0 ≤ h0.size) (VA : own_A Z h0 a .byte 5 f) (h_0 : f 0 = .int t') (h_1 : f 1 = .int (3)) (htag : ¬ ((t' &&& 255) &&& 31).toInt = 31) :
    MetFree l (⟨"com/example/linkvouch/linkvouch/apk/Der", "parse", "([B)Lcom/example/linkvouch/linkvouch/apk/Der;"⟩ : MethodName) (head1 (Jvm.Cond.code (⟨"com/example/linkvouch/linkvouch/apk/Der", "parse", "([B)Lcom/example/linkvouch/linkvouch/apk/Der;"⟩ : MethodName) prog_30_method_2_code 2 (some (.object "com/example/linkvouch/linkvouch/apk/Der")) :: ws) ({ frames := 3, cells := 1, slots := 5, locals := 70 } : Room)) (fun aX U => aX = #[(.ref a)] ∧ Z.Warmed39 U.vm ∧ U.heap = h0) (fun _ _ _ _ _ => True) (fun _ U o U' => ∃ v L, o = .returned v ∧ (Q_parse2 Z a t' f h0 n0) v U'.heap L ∧ FrameEnd U o U' L ({ frames := 3, cells := 1, slots := 5, locals := 70 } : Room).cells ({ frames := 3, cells := 1, slots := 5, locals := 70 } : Room).slots) := by
  refine own_met (Q := (Q_parse2 Z a t' f h0 n0)) (plainFor_of_name (x := (⟨"com/example/linkvouch/linkvouch/apk/Der", "parse", "([B)Lcom/example/linkvouch/linkvouch/apk/Der;"⟩ : MethodName)) pn_1) (fun m => ef_parse2 m a) ?_
  intro p e s m below meth cD s₁ hx hby hml hret hlk hZ hown hnm X0 e0 hs0
  have hown : s.vm.findClass "com/example/linkvouch/linkvouch/apk/Der" = some m.cls := hown
  have N0 := Fr.nil n0
  refine own_st (fr' := (mkF m 1 #[.val (.ref a), .unset] [(.ref a)])) (fun t k => XS.aloadN X0.here hx rfl (hb hby d3_0) rfl rfl k) ?_
  refine own_st (fr' := (mkF m 2 #[.val (.ref a), .unset] [(.int 0), (.ref a)])) (fun t k => XS.iconst X0.here hx rfl (hb hby d3_1) k) ?_
  refine own_st (fr' := (mkF m 3 #[.val (.ref a), .unset] [(.ref a), (.int 0), (.ref a)])) (fun t k => XS.aloadN X0.here hx rfl (hb hby d3_2) rfl rfl k) ?_
  refine own_alen X0 hx hZ e0 VA (hb hby d3_3) ?_
  refine own_callS X0 hx hZ (y := (⟨"com/example/linkvouch/linkvouch/apk/Der", "read", "([BII)Lcom/example/linkvouch/linkvouch/apk/Der;"⟩ : MethodName)) hown (hw _ (List.mem_of_getElem? (i := 12) rfl)) (hw _ (List.mem_of_getElem? (i := 13) rfl)) (hw _ (List.mem_of_getElem? (i := 10) rfl)) (hw _ (List.mem_of_getElem? (i := 14) rfl)) (by decide) (argsL := [(.ref a), (.int 0), (.int 5)]) (rest := []) (W := 0) (rm_read2 l Z a0 hw [] a t' f h0 n0 Z0 VA h_0 h_1 htag) e0 (by rw [hml]; rfl) (lenOf pd_4 rfl) rfl (Nat.le_of_eq rfl) (hb hby d3_4) (by decide) (by decide) (by decide) (by decide) ?_
  intro v45 T45 L45 X45 hQ45
  obtain ⟨⟨d, rfl, hd0, Ed, Fd0, Fd1, Fd2, Fd3, Fd4⟩, Nq45, K45⟩ := hQ45
  have N45 := Fr.app N0 Nq45
  refine own_st (fr' := (mkF m 8 #[.val (.ref a), .val (.ref d)] [])) (fun t k => XS.astoreN X45.here hx rfl (hb hby d3_7) rfl rfl (l' := #[.val (.ref a), .val (.ref d)]) rfl k) ?_
  refine own_st (fr' := (mkF m 9 #[.val (.ref a), .val (.ref d)] [(.ref d)])) (fun t k => XS.aloadN X45.here hx rfl (hb hby d3_8) rfl rfl k) ?_
  obtain ⟨T46, X46, e46, st46⟩ := getF X45 hx hZ hown (host := "") (Or.inl (hw _ (List.mem_of_getElem? (i := 31) rfl))) Via.refl rfl Fd4 (g := (mkF m 9 #[.val (.ref a), .val (.ref d)] [(.ref d)])) rfl rfl (hb hby d3_9)
  refine own_st (fr' := (mkF m 12 #[.val (.ref a), .val (.ref d)] [(.int 5)])) st46 ?_
  refine own_st (fr' := (mkF m 13 #[.val (.ref a), .val (.ref d)] [(.ref a), (.int 5)])) (fun t k => XS.aloadN X46.here hx rfl (hb hby d3_12) rfl rfl k) ?_
  refine own_alen X46 hx hZ e46 (VA.keep K45 nin0) (hb hby d3_13) ?_
  refine own_st (fr' := (mkF m 27 #[.val (.ref a), .val (.ref d)] [])) (fun t k => XS.icmpYes X46.here hx rfl (pc0 := 14) (pc' := 27) rfl (hb hby d3_14) rfl (own_teq (x := (5 : Int32)) (y := (5 : Int32)) (show 5 = 5 from by decide)).1 (by decide) (by decide) k) ?_
  refine own_st (fr' := (mkF m 28 #[.val (.ref a), .val (.ref d)] [(.ref d)])) (fun t k => XS.aloadN X46.here hx rfl (hb hby d3_27) rfl rfl k) ?_
  exact own_retA X46 hx hlk hret rfl rfl (hb hby d3_28) (by decide) (by decide) (by rw [e46]; exact ⟨⟨d, rfl, hd0, Ed, Fd0, Fd1, Fd2, Fd3, Fd4⟩, N45, (Keep.trans (Keep.refl h0 []) K45 all0)⟩)
theorem ef_cont2 (m : MethodId) (d : Addr) : entryFrame m #[(.ref d)] 1 = mkF m 0 #[.val (.ref d)] [] := by first | (simp [entryFrame, mkF, argsToLocals, Value.category, maxLocals]; done) | rfl
def Q_cont2 (Z : State) (d : Addr) (a : Addr) (f : Nat → Value) (h0 : Heap) (n0 : Nat) : Option Value → Heap → List Loc → Prop := fun v h L => (∃ (r : Addr) (g : Nat → Value), v = some (.ref r) ∧ h0.size ≤ r ∧ own_A Z h r .byte 3 g ∧ ∀ i : Nat, i < 3 → g i = f (2 + i)) ∧ Fr n0 L ∧ Keep h0 h []
set_option maxRecDepth 65536 in
set_option maxHeartbeats 40000000 in
theorem rm_cont2 (l : Launch) (Z : State) (a0 : Array Value) (hw : ∀ d ∈ tables_1, d.before a0 Z = true) (ws : List Jvm.Cond) (d : Addr) (a : Addr) (f : Nat → Value) (h0 : Heap) (n0 : Nat) (Z0 : n0 ≤ h0.size) (F_bytes : Fld Z h0 d "com/example/linkvouch/linkvouch/apk/Der" "bytes" "[B" (.ref a)) (VA : own_A Z h0 a .byte 5 f) (EA : Exa Z h0 a "[B") (F_end : Fld Z h0 d "com/example/linkvouch/linkvouch/apk/Der" "end" "I" (.int 5)) (F_contentStart : Fld Z h0 d "com/example/linkvouch/linkvouch/apk/Der" "contentStart" "I" (.int 2)) :
    MetFree l (⟨"com/example/linkvouch/linkvouch/apk/Der", "content", "()[B"⟩ : MethodName) (head1 (Jvm.Cond.code (⟨"com/example/linkvouch/linkvouch/apk/Der", "content", "()[B"⟩ : MethodName) prog_30_method_9_code 1 (some (.array .byte)) :: ws) ({ frames := 3, cells := 1, slots := 304, locals := 110 } : Room)) (fun aX U => aX = #[(.ref d)] ∧ Z.Warmed39 U.vm ∧ U.heap = h0) (fun _ _ _ _ _ => True) (fun _ U o U' => ∃ v L, o = .returned v ∧ (Q_cont2 Z d a f h0 n0) v U'.heap L ∧ FrameEnd U o U' L ({ frames := 3, cells := 1, slots := 304, locals := 110 } : Room).cells ({ frames := 3, cells := 1, slots := 304, locals := 110 } : Room).slots) := by
  refine own_met (Q := (Q_cont2 Z d a f h0 n0)) (plainFor_of_name (x := (⟨"com/example/linkvouch/linkvouch/apk/Der", "content", "()[B"⟩ : MethodName)) pn_1) (fun m => ef_cont2 m d) ?_
  intro p e s m below meth cD s₁ hx hby hml hret hlk hZ hown hnm X0 e0 hs0
  have hown : s.vm.findClass "com/example/linkvouch/linkvouch/apk/Der" = some m.cls := hown
  have N0 := Fr.nil n0
  refine own_st (fr' := (mkF m 1 #[.val (.ref d)] [(.ref d)])) (fun t k => XS.aloadN X0.here hx rfl (hb hby d7_0) rfl rfl k) ?_
  obtain ⟨T47, X47, e47, st47⟩ := getF X0 hx hZ hown (host := "") (Or.inl (hw _ (List.mem_of_getElem? (i := 23) rfl))) Via.refl e0 F_bytes (g := (mkF m 1 #[.val (.ref d)] [(.ref d)])) rfl rfl (hb hby d7_1)
  refine own_st (fr' := (mkF m 4 #[.val (.ref d)] [(.ref a)])) st47 ?_
  refine own_st (fr' := (mkF m 5 #[.val (.ref d)] [(.ref d), (.ref a)])) (fun t k => XS.aloadN X47.here hx rfl (hb hby d7_4) rfl rfl k) ?_
  obtain ⟨T48, X48, e48, st48⟩ := getF X47 hx hZ hown (host := "") (Or.inl (hw _ (List.mem_of_getElem? (i := 29) rfl))) Via.refl e47 F_contentStart (g := (mkF m 5 #[.val (.ref d)] [(.ref d), (.ref a)])) rfl rfl (hb hby d7_5)
  refine own_st (fr' := (mkF m 8 #[.val (.ref d)] [(.int 2), (.ref a)])) st48 ?_
  refine own_st (fr' := (mkF m 9 #[.val (.ref d)] [(.ref d), (.int 2), (.ref a)])) (fun t k => XS.aloadN X48.here hx rfl (hb hby d7_8) rfl rfl k) ?_
  obtain ⟨T49, X49, e49, st49⟩ := getF X48 hx hZ hown (host := "") (Or.inl (hw _ (List.mem_of_getElem? (i := 31) rfl))) Via.refl e48 F_end (g := (mkF m 9 #[.val (.ref d)] [(.ref d), (.int 2), (.ref a)])) rfl rfl (hb hby d7_9)
  refine own_st (fr' := (mkF m 12 #[.val (.ref d)] [(.int 5), (.int 2), (.ref a)])) st49 ?_
  refine own_callS X49 hx hZ (y := (⟨"java/util/Arrays", "copyOfRange", "([BII)[B"⟩ : MethodName)) hown (hw _ (List.mem_of_getElem? (i := 38) rfl)) (hw _ (List.mem_of_getElem? (i := 39) rfl)) (hw _ (List.mem_of_getElem? (i := 40) rfl)) (hw _ (List.mem_of_getElem? (i := 41) rfl)) (by decide) (argsL := [(.ref a), (.int 2), (.int 5)]) (rest := []) (W := 0) (rm_cr1 l Z a0 hw [] a (2 : Int32) (5 : Int32) (5 : Int32) f h0 n0 Z0 VA EA ⟨by decide, by decide, by decide⟩ (by decide) (by decide)) e49 (by rw [hml]; rfl) (lenOf pd_2 rfl) rfl (Nat.le_of_eq rfl) (hb hby d7_12) (by decide) (by decide) (by decide) (by decide) ?_
  intro v50 T50 L50 X50 hQ50
  obtain ⟨⟨r, g, nl, rfl, hr, hnl, VR, hg⟩, Nq50, K50⟩ := hQ50
  have N50 := Fr.app N0 Nq50
  have enl : nl = (3 : Int32) := Int32.toInt_inj.mp (hnl.trans (by decide))
  subst enl
  exact own_retA X50 hx hlk hret rfl rfl (hb hby d7_15) (by decide) (by decide) (⟨⟨r, g, rfl, hr, VR, fun i hi => hg i (by show (i : Int) < (5 : Int) - 2; omega)⟩, N50, K50⟩)
theorem ef_enc2 (m : MethodId) (d : Addr) : entryFrame m #[(.ref d)] 1 = mkF m 0 #[.val (.ref d)] [] := by first | (simp [entryFrame, mkF, argsToLocals, Value.category, maxLocals]; done) | rfl
def Q_enc2 (Z : State) (d : Addr) (a : Addr) (f : Nat → Value) (h0 : Heap) (n0 : Nat) : Option Value → Heap → List Loc → Prop := fun v h L => (∃ r : Addr, v = some (.ref r) ∧ h0.size ≤ r ∧ own_A Z h r .byte 5 f) ∧ Fr n0 L ∧ Keep h0 h []
set_option maxRecDepth 65536 in
set_option maxHeartbeats 40000000 in
theorem rm_enc2 (l : Launch) (Z : State) (a0 : Array Value) (hw : ∀ d ∈ tables_1, d.before a0 Z = true) (ws : List Jvm.Cond) (d : Addr) (a : Addr) (f : Nat → Value) (h0 : Heap) (n0 : Nat) (Z0 : n0 ≤ h0.size) (F_bytes : Fld Z h0 d "com/example/linkvouch/linkvouch/apk/Der" "bytes" "[B" (.ref a)) (VA : own_A Z h0 a .byte 5 f) (EA : Exa Z h0 a "[B") (F_end : Fld Z h0 d "com/example/linkvouch/linkvouch/apk/Der" "end" "I" (.int 5)) (F_start : Fld Z h0 d "com/example/linkvouch/linkvouch/apk/Der" "start" "I" (.int 0)) :
    MetFree l (⟨"com/example/linkvouch/linkvouch/apk/Der", "encoded", "()[B"⟩ : MethodName) (head1 (Jvm.Cond.code (⟨"com/example/linkvouch/linkvouch/apk/Der", "encoded", "()[B"⟩ : MethodName) prog_30_method_8_code 1 (some (.array .byte)) :: ws) ({ frames := 2, cells := 1, slots := 304, locals := 60 } : Room)) (fun aX U => aX = #[(.ref d)] ∧ Z.Warmed39 U.vm ∧ U.heap = h0) (fun _ _ _ _ _ => True) (fun _ U o U' => ∃ v L, o = .returned v ∧ (Q_enc2 Z d a f h0 n0) v U'.heap L ∧ FrameEnd U o U' L ({ frames := 2, cells := 1, slots := 304, locals := 60 } : Room).cells ({ frames := 2, cells := 1, slots := 304, locals := 60 } : Room).slots) := by
  refine own_met (Q := (Q_enc2 Z d a f h0 n0)) (plainFor_of_name (x := (⟨"com/example/linkvouch/linkvouch/apk/Der", "encoded", "()[B"⟩ : MethodName)) pn_1) (fun m => ef_enc2 m d) ?_
  intro p e s m below meth cD s₁ hx hby hml hret hlk hZ hown hnm X0 e0 hs0
  have hown : s.vm.findClass "com/example/linkvouch/linkvouch/apk/Der" = some m.cls := hown
  have N0 := Fr.nil n0
  refine own_st (fr' := (mkF m 1 #[.val (.ref d)] [(.ref d)])) (fun t k => XS.aloadN X0.here hx rfl (hb hby d12_0) rfl rfl k) ?_
  obtain ⟨T51, X51, e51, st51⟩ := getF X0 hx hZ hown (host := "") (Or.inl (hw _ (List.mem_of_getElem? (i := 23) rfl))) Via.refl e0 F_bytes (g := (mkF m 1 #[.val (.ref d)] [(.ref d)])) rfl rfl (hb hby d12_1)
  refine own_st (fr' := (mkF m 4 #[.val (.ref d)] [(.ref a)])) st51 ?_
  refine own_st (fr' := (mkF m 5 #[.val (.ref d)] [(.ref d), (.ref a)])) (fun t k => XS.aloadN X51.here hx rfl (hb hby d12_4) rfl rfl k) ?_
  obtain ⟨T52, X52, e52, st52⟩ := getF X51 hx hZ hown (host := "") (Or.inl (hw _ (List.mem_of_getElem? (i := 27) rfl))) Via.refl e51 F_start (g := (mkF m 5 #[.val (.ref d)] [(.ref d), (.ref a)])) rfl rfl (hb hby d12_5)
  refine own_st (fr' := (mkF m 8 #[.val (.ref d)] [(.int 0), (.ref a)])) st52 ?_
  refine own_st (fr' := (mkF m 9 #[.val (.ref d)] [(.ref d), (.int 0), (.ref a)])) (fun t k => XS.aloadN X52.here hx rfl (hb hby d12_8) rfl rfl k) ?_
  obtain ⟨T53, X53, e53, st53⟩ := getF X52 hx hZ hown (host := "") (Or.inl (hw _ (List.mem_of_getElem? (i := 31) rfl))) Via.refl e52 F_end (g := (mkF m 9 #[.val (.ref d)] [(.ref d), (.int 0), (.ref a)])) rfl rfl (hb hby d12_9)
  refine own_st (fr' := (mkF m 12 #[.val (.ref d)] [(.int 5), (.int 0), (.ref a)])) st53 ?_
  refine own_callS X53 hx hZ (y := (⟨"java/util/Arrays", "copyOfRange", "([BII)[B"⟩ : MethodName)) hown (hw _ (List.mem_of_getElem? (i := 38) rfl)) (hw _ (List.mem_of_getElem? (i := 39) rfl)) (hw _ (List.mem_of_getElem? (i := 40) rfl)) (hw _ (List.mem_of_getElem? (i := 41) rfl)) (by decide) (argsL := [(.ref a), (.int 0), (.int 5)]) (rest := []) (W := 0) (rm_cr0 l Z a0 hw [] a (5 : Int32) f h0 n0 Z0 VA EA (by decide)) e53 (by rw [hml]; rfl) (lenOf pd_2 rfl) rfl (Nat.le_of_eq rfl) (hb hby d12_12) (by decide) (by decide) (by decide) (by decide) ?_
  intro v54 T54 L54 X54 hQ54
  obtain ⟨⟨r, rfl, hr, VR⟩, Nq54, K54⟩ := hQ54
  have N54 := Fr.app N0 Nq54
  exact own_retA X54 hx hlk hret rfl rfl (hb hby d12_15) (by decide) (by decide) (⟨⟨r, rfl, hr, VR⟩, N54, K54⟩)
theorem d1_20 : decode method_3_code 20 = .ok (.iload_n 0, 1) := by decide +kernel
theorem d1_21 : decode method_3_code 21 = .ok (.iconst 3, 1) := by decide +kernel
theorem d1_22 : decode method_3_code 22 = .ok (.if_icmp .ne 6, 3) := by decide +kernel
theorem d1_25 : decode method_3_code 25 = .ok (.bipush 127, 2) := by decide +kernel
theorem d1_27 : decode method_3_code 27 = .ok (.ireturn, 1) := by decide +kernel
theorem ef_len3 (m : MethodId)  : entryFrame m #[(.int 3)] 1 = mkF m 0 #[oI 3] [] := by first | (simp [entryFrame, mkF, argsToLocals, Value.category, maxLocals]; done) | rfl
def Q_len3 (Z : State)  (h0 : Heap) (n0 : Nat) : Option Value → Heap → List Loc → Prop := fun v h L => v = some (.int 127) ∧ Fr n0 L ∧ h = h0
set_option maxRecDepth 65536 in
set_option maxHeartbeats 40000000 in
theorem rm_len3 (l : Launch) (Z : State) (a0 : Array Value) (hw : ∀ d ∈ tables_1, d.before a0 Z = true) (ws : List Jvm.Cond)  (h0 : Heap) (n0 : Nat) (Z0 : n0 ≤ h0.size)  :
    MetFree l (⟨"com/example/linkvouch/linkvouch/apk/DerParsePinLaw", "lengthOf", "(I)I"⟩ : MethodName) (head1 (Jvm.Cond.code (⟨"com/example/linkvouch/linkvouch/apk/DerParsePinLaw", "lengthOf", "(I)I"⟩ : MethodName) method_3_code 1 (some .int) :: ws) ({ frames := 0, cells := 0, slots := 0, locals := 0 } : Room)) (fun aX U => aX = #[(.int 3)] ∧ Z.Warmed39 U.vm ∧ U.heap = h0) (fun _ _ _ _ _ => True) (fun _ U o U' => ∃ v L, o = .returned v ∧ (Q_len3 Z  h0 n0) v U'.heap L ∧ FrameEnd U o U' L ({ frames := 0, cells := 0, slots := 0, locals := 0 } : Room).cells ({ frames := 0, cells := 0, slots := 0, locals := 0 } : Room).slots) := by
  refine own_met (Q := (Q_len3 Z  h0 n0)) (plainFor_of_name (x := (⟨"com/example/linkvouch/linkvouch/apk/DerParsePinLaw", "lengthOf", "(I)I"⟩ : MethodName)) pn_2) (fun m => ef_len3 m ) ?_
  intro p e s m below meth cD s₁ hx hby hml hret hlk hZ hown hnm X0 e0 hs0
  have hown : s.vm.findClass "com/example/linkvouch/linkvouch/apk/DerParsePinLaw" = some m.cls := hown
  have N0 := Fr.nil n0
  refine own_st (fr' := (mkF m 1 #[oI 3] [(.int 3)])) (fun t k => XS.iloadN X0.here hx rfl (hb hby d1_0) rfl  k) ?_
  refine own_st (fr' := (mkF m 6 #[oI 3] [])) (fun t k => XS.ifYes X0.here hx rfl (pc0 := 1) (pc' := 6) rfl (hb hby d1_1) rfl ((if0 _ _).trans (own_feq (x := (3 : Int32)) (y := (0 : Int32)) (show ¬ 3 = 0 from by decide)).2) (by decide) (by decide) k) ?_
  refine own_st (fr' := (mkF m 7 #[oI 3] [(.int 3)])) (fun t k => XS.iloadN X0.here hx rfl (hb hby d1_6) rfl  k) ?_
  refine own_st (fr' := (mkF m 8 #[oI 3] [(.int 1), (.int 3)])) (fun t k => XS.iconst X0.here hx rfl (hb hby d1_7) k) ?_
  refine own_st (fr' := (mkF m 13 #[oI 3] [])) (fun t k => XS.icmpYes X0.here hx rfl (pc0 := 8) (pc' := 13) rfl (hb hby d1_8) rfl (own_feq (x := (3 : Int32)) (y := (1 : Int32)) (show ¬ 3 = 1 from by decide)).2 (by decide) (by decide) k) ?_
  refine own_st (fr' := (mkF m 14 #[oI 3] [(.int 3)])) (fun t k => XS.iloadN X0.here hx rfl (hb hby d1_13) rfl  k) ?_
  refine own_st (fr' := (mkF m 15 #[oI 3] [(.int 2), (.int 3)])) (fun t k => XS.iconst X0.here hx rfl (hb hby d1_14) k) ?_
  refine own_st (fr' := (mkF m 20 #[oI 3] [])) (fun t k => XS.icmpYes X0.here hx rfl (pc0 := 15) (pc' := 20) rfl (hb hby d1_15) rfl (own_feq (x := (3 : Int32)) (y := (2 : Int32)) (show ¬ 3 = 2 from by decide)).2 (by decide) (by decide) k) ?_
  refine own_st (fr' := (mkF m 21 #[oI 3] [(.int 3)])) (fun t k => XS.iloadN X0.here hx rfl (hb hby d1_20) rfl  k) ?_
  refine own_st (fr' := (mkF m 22 #[oI 3] [(.int 3), (.int 3)])) (fun t k => XS.iconst X0.here hx rfl (hb hby d1_21) k) ?_
  refine own_st (fr' := (mkF m 25 #[oI 3] [])) (fun t k => XS.icmpNo X0.here hx rfl (hb hby d1_22) rfl (own_teq (x := (3 : Int32)) (y := (3 : Int32)) (show 3 = 3 from by decide)).2 k) ?_
  refine own_st (fr' := (mkF m 27 #[oI 3] [(.int 127)])) (fun t k => XS.bipush X0.here hx rfl (hb hby d1_25) k) ?_
  exact own_retI X0 hx hlk hret (hb hby d1_27) (by decide) (by decide) (⟨rfl, N0, e0⟩)
theorem d2_26 : decode method_2_code 26 = .ok (.iload_n 0, 1) := by decide +kernel
theorem d2_27 : decode method_2_code 27 = .ok (.iconst 3, 1) := by decide +kernel
theorem d2_28 : decode method_2_code 28 = .ok (.if_icmp .ne 9, 3) := by decide +kernel
theorem d2_31 : decode method_2_code 31 = .ok (.sipush 129, 3) := by decide +kernel
theorem d2_34 : decode method_2_code 34 = .ok (.newarray .byte, 2) := by decide +kernel
theorem d2_36 : decode method_2_code 36 = .ok (.areturn, 1) := by decide +kernel
theorem ef_alloc3 (m : MethodId)  : entryFrame m #[(.int 3)] 1 = mkF m 0 #[oI 3] [] := by first | (simp [entryFrame, mkF, argsToLocals, Value.category, maxLocals]; done) | rfl
def Q_alloc3 (Z : State)  (h0 : Heap) (n0 : Nat) : Option Value → Heap → List Loc → Prop := fun v h L => (∃ r : Addr, v = some (.ref r) ∧ h0.size ≤ r ∧ n0 ≤ r ∧ own_A Z h r .byte 129 (fun _ => .int 0) ∧ Exa Z h r "[B") ∧ Fr n0 L ∧ Keep h0 h []
set_option maxRecDepth 65536 in
set_option maxHeartbeats 40000000 in
theorem rm_alloc3 (l : Launch) (Z : State) (a0 : Array Value) (hw : ∀ d ∈ tables_1, d.before a0 Z = true) (ws : List Jvm.Cond)  (h0 : Heap) (n0 : Nat) (Z0 : n0 ≤ h0.size)  :
    MetFree l (⟨"com/example/linkvouch/linkvouch/apk/DerParsePinLaw", "alloc", "(I)[B"⟩ : MethodName) (head1 (Jvm.Cond.code (⟨"com/example/linkvouch/linkvouch/apk/DerParsePinLaw", "alloc", "(I)[B"⟩ : MethodName) method_2_code 1 (some (.array .byte)) :: ws) ({ frames := 0, cells := 1, slots := 129, locals := 0 } : Room)) (fun aX U => aX = #[(.int 3)] ∧ Z.Warmed39 U.vm ∧ U.heap = h0) (fun _ _ _ _ _ => True) (fun _ U o U' => ∃ v L, o = .returned v ∧ (Q_alloc3 Z  h0 n0) v U'.heap L ∧ FrameEnd U o U' L ({ frames := 0, cells := 1, slots := 129, locals := 0 } : Room).cells ({ frames := 0, cells := 1, slots := 129, locals := 0 } : Room).slots) := by
  refine own_met (Q := (Q_alloc3 Z  h0 n0)) (plainFor_of_name (x := (⟨"com/example/linkvouch/linkvouch/apk/DerParsePinLaw", "alloc", "(I)[B"⟩ : MethodName)) pn_2) (fun m => ef_alloc3 m ) ?_
  intro p e s m below meth cD s₁ hx hby hml hret hlk hZ hown hnm X0 e0 hs0
  have hown : s.vm.findClass "com/example/linkvouch/linkvouch/apk/DerParsePinLaw" = some m.cls := hown
  have N0 := Fr.nil n0
  refine own_st (fr' := (mkF m 1 #[oI 3] [(.int 3)])) (fun t k => XS.iloadN X0.here hx rfl (hb hby d2_0) rfl  k) ?_
  refine own_st (fr' := (mkF m 8 #[oI 3] [])) (fun t k => XS.ifYes X0.here hx rfl (pc0 := 1) (pc' := 8) rfl (hb hby d2_1) rfl ((if0 _ _).trans (own_feq (x := (3 : Int32)) (y := (0 : Int32)) (show ¬ 3 = 0 from by decide)).2) (by decide) (by decide) k) ?_
  refine own_st (fr' := (mkF m 9 #[oI 3] [(.int 3)])) (fun t k => XS.iloadN X0.here hx rfl (hb hby d2_8) rfl  k) ?_
  refine own_st (fr' := (mkF m 10 #[oI 3] [(.int 1), (.int 3)])) (fun t k => XS.iconst X0.here hx rfl (hb hby d2_9) k) ?_
  refine own_st (fr' := (mkF m 17 #[oI 3] [])) (fun t k => XS.icmpYes X0.here hx rfl (pc0 := 10) (pc' := 17) rfl (hb hby d2_10) rfl (own_feq (x := (3 : Int32)) (y := (1 : Int32)) (show ¬ 3 = 1 from by decide)).2 (by decide) (by decide) k) ?_
  refine own_st (fr' := (mkF m 18 #[oI 3] [(.int 3)])) (fun t k => XS.iloadN X0.here hx rfl (hb hby d2_17) rfl  k) ?_
  refine own_st (fr' := (mkF m 19 #[oI 3] [(.int 2), (.int 3)])) (fun t k => XS.iconst X0.here hx rfl (hb hby d2_18) k) ?_
  refine own_st (fr' := (mkF m 26 #[oI 3] [])) (fun t k => XS.icmpYes X0.here hx rfl (pc0 := 19) (pc' := 26) rfl (hb hby d2_19) rfl (own_feq (x := (3 : Int32)) (y := (2 : Int32)) (show ¬ 3 = 2 from by decide)).2 (by decide) (by decide) k) ?_
  refine own_st (fr' := (mkF m 27 #[oI 3] [(.int 3)])) (fun t k => XS.iloadN X0.here hx rfl (hb hby d2_26) rfl  k) ?_
  refine own_st (fr' := (mkF m 28 #[oI 3] [(.int 3), (.int 3)])) (fun t k => XS.iconst X0.here hx rfl (hb hby d2_27) k) ?_
  refine own_st (fr' := (mkF m 31 #[oI 3] [])) (fun t k => XS.icmpNo X0.here hx rfl (hb hby d2_28) rfl (own_teq (x := (3 : Int32)) (y := (3 : Int32)) (show 3 = 3 from by decide)).2 k) ?_
  refine own_st (fr' := (mkF m 34 #[oI 3] [(.int 129)])) (fun t k => XS.sipush X0.here hx rfl (hb hby d2_31) k) ?_
  refine own_newarrE X0 hx hZ (hw _ (List.mem_of_getElem? (i := 7) rfl)) e0 (hb hby d2_34) (by decide) (cap := 129) (by decide) (by decide) (by decide) (by decide) rfl (C := "[B") rfl ?_
  intro T55 h55 b55 g55 X55 e55 E55 VA55 EX55
  have V55 := own_B.new VA55
  have ge_b55 : n0 ≤ b55 := Nat.le_trans Z0 (Nat.le_of_eq g55.symm)
  have sz_b55 : h0.size ≤ b55 := Nat.le_trans (Nat.le_refl _) (Nat.le_of_eq g55.symm)
  exact own_retA X55 hx hlk hret rfl rfl (hb hby d2_36) (by decide) (by decide) (by rw [e55]; exact ⟨⟨b55, rfl, sz_b55, ge_b55, VA55, EX55⟩, N0, (Keep.ext (Keep.refl h0 []) E55)⟩)
theorem ef_read3 (m : MethodId) (a : Addr) : entryFrame m #[(.ref a), (.int 0), (.int 129)] 10 = mkF m 0 #[.val (.ref a), oI 0, oI 129, .unset, .unset, .unset, .unset, .unset, .unset, .unset] [] := by first | (simp [entryFrame, mkF, argsToLocals, Value.category, maxLocals]; done) | rfl
def Q_read3 (Z : State) (a : Addr) (t' : Int32) (f : Nat → Value) (h0 : Heap) (n0 : Nat) : Option Value → Heap → List Loc → Prop := fun v h L => (∃ d : Addr, v = some (.ref d) ∧ h0.size ≤ d ∧ Exa Z h d "com/example/linkvouch/linkvouch/apk/Der" ∧ Fld Z h d "com/example/linkvouch/linkvouch/apk/Der" "bytes" "[B" (.ref a) ∧ Fld Z h d "com/example/linkvouch/linkvouch/apk/Der" "tag" "I" (.int (t' &&& 255)) ∧ Fld Z h d "com/example/linkvouch/linkvouch/apk/Der" "start" "I" (.int 0) ∧ Fld Z h d "com/example/linkvouch/linkvouch/apk/Der" "contentStart" "I" (.int 2) ∧ Fld Z h d "com/example/linkvouch/linkvouch/apk/Der" "end" "I" (.int 129)) ∧ Fr n0 L ∧ Keep h0 h []
set_option maxRecDepth 65536 in
set_option maxHeartbeats 40000000 in
theorem rm_read3 (l : Launch) (Z : State) (a0 : Array Value) (hw : ∀ d ∈ tables_1, d.before a0 Z = true) (ws : List Jvm.Cond) (a : Addr) (t' : Int32) (f : Nat → Value) (h0 : Heap) (n0 : Nat) (Z0 : n0 ≤ h0.size) (VA : own_A Z h0 a .byte 129 f) (h_0 : f 0 = .int t') (h_1 : f 1 = .int (127)) (htag : ¬ ((t' &&& 255) &&& 31).toInt = 31) :
    MetFree l (⟨"com/example/linkvouch/linkvouch/apk/Der", "read", "([BII)Lcom/example/linkvouch/linkvouch/apk/Der;"⟩ : MethodName) (head1 (Jvm.Cond.code (⟨"com/example/linkvouch/linkvouch/apk/Der", "read", "([BII)Lcom/example/linkvouch/linkvouch/apk/Der;"⟩ : MethodName) prog_30_method_3_code 10 (some (.object "com/example/linkvouch/linkvouch/apk/Der")) :: ws) ({ frames := 2, cells := 1, slots := 5, locals := 40 } : Room)) (fun aX U => aX = #[(.ref a), (.int 0), (.int 129)] ∧ Z.Warmed39 U.vm ∧ U.heap = h0) (fun _ _ _ _ _ => True) (fun _ U o U' => ∃ v L, o = .returned v ∧ (Q_read3 Z a t' f h0 n0) v U'.heap L ∧ FrameEnd U o U' L ({ frames := 2, cells := 1, slots := 5, locals := 40 } : Room).cells ({ frames := 2, cells := 1, slots := 5, locals := 40 } : Room).slots) := by
  refine own_met (Q := (Q_read3 Z a t' f h0 n0)) (plainFor_of_name (x := (⟨"com/example/linkvouch/linkvouch/apk/Der", "read", "([BII)Lcom/example/linkvouch/linkvouch/apk/Der;"⟩ : MethodName)) pn_1) (fun m => ef_read3 m a) ?_
  intro p e s m below meth cD s₁ hx hby hml hret hlk hZ hown hnm X0 e0 hs0
  have hown : s.vm.findClass "com/example/linkvouch/linkvouch/apk/Der" = some m.cls := hown
  have N0 := Fr.nil n0
  refine own_st (fr' := (mkF m 1 #[.val (.ref a), oI 0, oI 129, .unset, .unset, .unset, .unset, .unset, .unset, .unset] [(.int 129)])) (fun t k => XS.iloadN X0.here hx rfl (hb hby d4_0) rfl  k) ?_
  refine own_st (fr' := (mkF m 2 #[.val (.ref a), oI 0, oI 129, .unset, .unset, .unset, .unset, .unset, .unset, .unset] [(.int 0), (.int 129)])) (fun t k => XS.iloadN X0.here hx rfl (hb hby d4_1) rfl  k) ?_
  refine own_st (fr' := (mkF m 3 #[.val (.ref a), oI 0, oI 129, .unset, .unset, .unset, .unset, .unset, .unset, .unset] [(.int 129)])) (fun t k => XS.isub X0.here hx rfl (hb hby d4_2) rfl k) ?_
  refine own_st (fr' := (mkF m 4 #[.val (.ref a), oI 0, oI 129, .unset, .unset, .unset, .unset, .unset, .unset, .unset] [(.int 2), (.int 129)])) (fun t k => XS.iconst X0.here hx rfl (hb hby d4_3) k) ?_
  refine own_st (fr' := (mkF m 17 #[.val (.ref a), oI 0, oI 129, .unset, .unset, .unset, .unset, .unset, .unset, .unset] [])) (fun t k => XS.icmpYes X0.here hx rfl (pc0 := 4) (pc' := 17) rfl (hb hby d4_4) rfl (own_flt (x := (129 : Int32)) (y := (2 : Int32)) (show ¬ 129 < 2 from by decide)).2.1 (by decide) (by decide) k) ?_
  refine own_st (fr' := (mkF m 18 #[.val (.ref a), oI 0, oI 129, .unset, .unset, .unset, .unset, .unset, .unset, .unset] [(.ref a)])) (fun t k => XS.aloadN X0.here hx rfl (hb hby d4_17) rfl rfl k) ?_
  refine own_st (fr' := (mkF m 19 #[.val (.ref a), oI 0, oI 129, .unset, .unset, .unset, .unset, .unset, .unset, .unset] [(.int 0), (.ref a)])) (fun t k => XS.iloadN X0.here hx rfl (hb hby d4_18) rfl  k) ?_
  refine own_baload (j := (0 : Int32)) X0 hx hZ e0 VA (by decide) (by decide) (v := (.int t')) (h_0) (hb hby d4_19) ?_
  refine own_st (fr' := (mkF m 23 #[.val (.ref a), oI 0, oI 129, .unset, .unset, .unset, .unset, .unset, .unset, .unset] [(.int 255), (.int t')])) (fun t k => XS.sipush X0.here hx rfl (hb hby d4_20) k) ?_
  refine own_st (fr' := (mkF m 24 #[.val (.ref a), oI 0, oI 129, .unset, .unset, .unset, .unset, .unset, .unset, .unset] [(.int (t' &&& (255 : Int32)))])) (fun t k => XS.iand X0.here hx rfl (hb hby d4_23) rfl k) ?_
  refine own_st (fr' := (mkF m 25 #[.val (.ref a), oI 0, oI 129, .val (.int (t' &&& (255 : Int32))), .unset, .unset, .unset, .unset, .unset, .unset] [])) (fun t k => XS.istoreN X0.here hx rfl (hb hby d4_24) rfl  (l' := #[.val (.ref a), oI 0, oI 129, .val (.int (t' &&& (255 : Int32))), .unset, .unset, .unset, .unset, .unset, .unset]) rfl k) ?_
  refine own_st (fr' := (mkF m 26 #[.val (.ref a), oI 0, oI 129, .val (.int (t' &&& (255 : Int32))), .unset, .unset, .unset, .unset, .unset, .unset] [(.int (t' &&& (255 : Int32)))])) (fun t k => XS.iloadN X0.here hx rfl (hb hby d4_25) rfl  k) ?_
  refine own_st (fr' := (mkF m 28 #[.val (.ref a), oI 0, oI 129, .val (.int (t' &&& (255 : Int32))), .unset, .unset, .unset, .unset, .unset, .unset] [(.int 31), (.int (t' &&& (255 : Int32)))])) (fun t k => XS.bipush X0.here hx rfl (hb hby d4_26) k) ?_
  refine own_st (fr' := (mkF m 29 #[.val (.ref a), oI 0, oI 129, .val (.int (t' &&& (255 : Int32))), .unset, .unset, .unset, .unset, .unset, .unset] [(.int ((t' &&& (255 : Int32)) &&& (31 : Int32)))])) (fun t k => XS.iand X0.here hx rfl (hb hby d4_28) rfl k) ?_
  refine own_st (fr' := (mkF m 31 #[.val (.ref a), oI 0, oI 129, .val (.int (t' &&& (255 : Int32))), .unset, .unset, .unset, .unset, .unset, .unset] [(.int 31), (.int ((t' &&& (255 : Int32)) &&& (31 : Int32)))])) (fun t k => XS.bipush X0.here hx rfl (hb hby d4_29) k) ?_
  refine own_st (fr' := (mkF m 44 #[.val (.ref a), oI 0, oI 129, .val (.int (t' &&& (255 : Int32))), .unset, .unset, .unset, .unset, .unset, .unset] [])) (fun t k => XS.icmpYes X0.here hx rfl (pc0 := 31) (pc' := 44) rfl (hb hby d4_31) rfl (own_feq (x := ((t' &&& (255 : Int32)) &&& (31 : Int32))) (y := (31 : Int32)) (show ¬ ((t' &&& (255 : Int32)) &&& (31 : Int32)).toInt = 31 from htag)).2 (by decide) (by decide) k) ?_
  refine own_st (fr' := (mkF m 45 #[.val (.ref a), oI 0, oI 129, .val (.int (t' &&& (255 : Int32))), .unset, .unset, .unset, .unset, .unset, .unset] [(.ref a)])) (fun t k => XS.aloadN X0.here hx rfl (hb hby d4_44) rfl rfl k) ?_
  refine own_st (fr' := (mkF m 46 #[.val (.ref a), oI 0, oI 129, .val (.int (t' &&& (255 : Int32))), .unset, .unset, .unset, .unset, .unset, .unset] [(.int 0), (.ref a)])) (fun t k => XS.iloadN X0.here hx rfl (hb hby d4_45) rfl  k) ?_
  refine own_st (fr' := (mkF m 47 #[.val (.ref a), oI 0, oI 129, .val (.int (t' &&& (255 : Int32))), .unset, .unset, .unset, .unset, .unset, .unset] [(.int 1), (.int 0), (.ref a)])) (fun t k => XS.iconst X0.here hx rfl (hb hby d4_46) k) ?_
  refine own_st (fr' := (mkF m 48 #[.val (.ref a), oI 0, oI 129, .val (.int (t' &&& (255 : Int32))), .unset, .unset, .unset, .unset, .unset, .unset] [(.int 1), (.ref a)])) (fun t k => XS.iadd X0.here hx rfl (hb hby d4_47) rfl k) ?_
  refine own_baload (j := (1 : Int32)) X0 hx hZ e0 VA (by decide) (by decide) (v := (.int 127)) (h_1) (hb hby d4_48) ?_
  refine own_st (fr' := (mkF m 52 #[.val (.ref a), oI 0, oI 129, .val (.int (t' &&& (255 : Int32))), .unset, .unset, .unset, .unset, .unset, .unset] [(.int 255), (.int 127)])) (fun t k => XS.sipush X0.here hx rfl (hb hby d4_49) k) ?_
  refine own_st (fr' := (mkF m 53 #[.val (.ref a), oI 0, oI 129, .val (.int (t' &&& (255 : Int32))), .unset, .unset, .unset, .unset, .unset, .unset] [(.int 127)])) (fun t k => XS.iand X0.here hx rfl (hb hby d4_52) rfl k) ?_
  refine own_st (fr' := (mkF m 55 #[.val (.ref a), oI 0, oI 129, .val (.int (t' &&& (255 : Int32))), oI 127, .unset, .unset, .unset, .unset, .unset] [])) (fun t k => XS.istore X0.here hx rfl (hb hby d4_53) rfl  (l' := #[.val (.ref a), oI 0, oI 129, .val (.int (t' &&& (255 : Int32))), oI 127, .unset, .unset, .unset, .unset, .unset]) rfl k) ?_
  refine own_st (fr' := (mkF m 56 #[.val (.ref a), oI 0, oI 129, .val (.int (t' &&& (255 : Int32))), oI 127, .unset, .unset, .unset, .unset, .unset] [(.int 0)])) (fun t k => XS.iloadN X0.here hx rfl (hb hby d4_55) rfl  k) ?_
  refine own_st (fr' := (mkF m 57 #[.val (.ref a), oI 0, oI 129, .val (.int (t' &&& (255 : Int32))), oI 127, .unset, .unset, .unset, .unset, .unset] [(.int 2), (.int 0)])) (fun t k => XS.iconst X0.here hx rfl (hb hby d4_56) k) ?_
  refine own_st (fr' := (mkF m 58 #[.val (.ref a), oI 0, oI 129, .val (.int (t' &&& (255 : Int32))), oI 127, .unset, .unset, .unset, .unset, .unset] [(.int 2)])) (fun t k => XS.iadd X0.here hx rfl (hb hby d4_57) rfl k) ?_
  refine own_st (fr' := (mkF m 60 #[.val (.ref a), oI 0, oI 129, .val (.int (t' &&& (255 : Int32))), oI 127, oI 2, .unset, .unset, .unset, .unset] [])) (fun t k => XS.istore X0.here hx rfl (hb hby d4_58) rfl  (l' := #[.val (.ref a), oI 0, oI 129, .val (.int (t' &&& (255 : Int32))), oI 127, oI 2, .unset, .unset, .unset, .unset]) rfl k) ?_
  refine own_st (fr' := (mkF m 62 #[.val (.ref a), oI 0, oI 129, .val (.int (t' &&& (255 : Int32))), oI 127, oI 2, .unset, .unset, .unset, .unset] [(.int 127)])) (fun t k => XS.iload X0.here hx rfl (hb hby d4_60) rfl  k) ?_
  refine own_st (fr' := (mkF m 63 #[.val (.ref a), oI 0, oI 129, .val (.int (t' &&& (255 : Int32))), oI 127, oI 2, .unset, .unset, .unset, .unset] [(.long (127 : Int64))])) (fun t k => XS.i2l X0.here hx rfl (hb hby d4_62) rfl k) ?_
  refine own_st (fr' := (mkF m 65 #[.val (.ref a), oI 0, oI 129, .val (.int (t' &&& (255 : Int32))), oI 127, oI 2, .val (.long (127 : Int64)), .second, .unset, .unset] [])) (fun t k => XS.lstore X0.here hx rfl (hb hby d4_63) rfl  (l' := #[.val (.ref a), oI 0, oI 129, .val (.int (t' &&& (255 : Int32))), oI 127, oI 2, .val (.long (127 : Int64)), .second, .unset, .unset]) rfl k) ?_
  refine own_st (fr' := (mkF m 67 #[.val (.ref a), oI 0, oI 129, .val (.int (t' &&& (255 : Int32))), oI 127, oI 2, .val (.long (127 : Int64)), .second, .unset, .unset] [(.int 127)])) (fun t k => XS.iload X0.here hx rfl (hb hby d4_65) rfl  k) ?_
  refine own_st (fr' := (mkF m 70 #[.val (.ref a), oI 0, oI 129, .val (.int (t' &&& (255 : Int32))), oI 127, oI 2, .val (.long (127 : Int64)), .second, .unset, .unset] [(.int 128), (.int 127)])) (fun t k => XS.sipush X0.here hx rfl (hb hby d4_67) k) ?_
  refine own_st (fr' := (mkF m 156 #[.val (.ref a), oI 0, oI 129, .val (.int (t' &&& (255 : Int32))), oI 127, oI 2, .val (.long (127 : Int64)), .second, .unset, .unset] [])) (fun t k => XS.icmpYes X0.here hx rfl (pc0 := 70) (pc' := 156) rfl (hb hby d4_70) rfl (own_tlt (x := (127 : Int32)) (y := (128 : Int32)) (show 127 < 128 from by decide)).1 (by decide) (by decide) k) ?_
  refine own_st (fr' := (mkF m 158 #[.val (.ref a), oI 0, oI 129, .val (.int (t' &&& (255 : Int32))), oI 127, oI 2, .val (.long (127 : Int64)), .second, .unset, .unset] [(.long (127 : Int64))])) (fun t k => XS.lload X0.here hx rfl (hb hby d4_156) rfl  k) ?_
  refine own_st (fr' := (mkF m 159 #[.val (.ref a), oI 0, oI 129, .val (.int (t' &&& (255 : Int32))), oI 127, oI 2, .val (.long (127 : Int64)), .second, .unset, .unset] [(.int 129), (.long (127 : Int64))])) (fun t k => XS.iloadN X0.here hx rfl (hb hby d4_158) rfl  k) ?_
  refine own_st (fr' := (mkF m 161 #[.val (.ref a), oI 0, oI 129, .val (.int (t' &&& (255 : Int32))), oI 127, oI 2, .val (.long (127 : Int64)), .second, .unset, .unset] [(.int 2), (.int 129), (.long (127 : Int64))])) (fun t k => XS.iload X0.here hx rfl (hb hby d4_159) rfl  k) ?_
  refine own_st (fr' := (mkF m 162 #[.val (.ref a), oI 0, oI 129, .val (.int (t' &&& (255 : Int32))), oI 127, oI 2, .val (.long (127 : Int64)), .second, .unset, .unset] [(.int 127), (.long (127 : Int64))])) (fun t k => XS.isub X0.here hx rfl (hb hby d4_161) rfl k) ?_
  refine own_st (fr' := (mkF m 163 #[.val (.ref a), oI 0, oI 129, .val (.int (t' &&& (255 : Int32))), oI 127, oI 2, .val (.long (127 : Int64)), .second, .unset, .unset] [(.long (127 : Int64)), (.long (127 : Int64))])) (fun t k => XS.i2l X0.here hx rfl (hb hby d4_162) rfl k) ?_
  refine own_st (fr' := (mkF m 164 #[.val (.ref a), oI 0, oI 129, .val (.int (t' &&& (255 : Int32))), oI 127, oI 2, .val (.long (127 : Int64)), .second, .unset, .unset] [(.int (lcmpW (127 : Int64) (127 : Int64)))])) (fun t k => XS.lcmp X0.here hx rfl (hb hby d4_163) rfl k) ?_
  refine own_st (fr' := (mkF m 177 #[.val (.ref a), oI 0, oI 129, .val (.int (t' &&& (255 : Int32))), oI 127, oI 2, .val (.long (127 : Int64)), .second, .unset, .unset] [])) (fun t k => XS.ifYes X0.here hx rfl (pc0 := 164) (pc' := 177) rfl (hb hby d4_164) rfl (own_fgtL (x := (127 : Int64)) (y := (127 : Int64)) (show ¬ 127 < 127 from by decide)).2 (by decide) (by decide) k) ?_
  obtain ⟨T56, h56, X56, e56, E56, A56, D56, -, st56⟩ := newO X0 hx hZ hown (hw _ (List.mem_of_getElem? (i := 15) rfl)) (hw _ (List.mem_of_getElem? (i := 16) rfl)) (hw _ (List.mem_of_getElem? (i := 10) rfl)) e0 (g := (mkF m 177 #[.val (.ref a), oI 0, oI 129, .val (.int (t' &&& (255 : Int32))), oI 127, oI 2, .val (.long (127 : Int64)), .second, .unset, .unset] [])) rfl (hb hby d4_177) (by decide) (by decide)
  obtain ⟨b56, g56⟩ : ∃ z, z = h0.size := ⟨_, rfl⟩
  rw [← g56] at A56 D56 st56
  have lt56_a : a < b56 := Nat.lt_of_lt_of_eq VA.lt g56.symm
  have ne56_a : a ≠ b56 := Nat.ne_of_lt lt56_a
  have ge_b56 : n0 ≤ b56 := Nat.le_trans Z0 (Nat.le_of_eq g56.symm)
  have sz_b56 : h0.size ≤ b56 := Nat.le_trans (Nat.le_refl _) (Nat.le_of_eq g56.symm)
  have F56_bytes : Fld Z h56 b56 "com/example/linkvouch/linkvouch/apk/Der" "bytes" "[B" .null := D56 (Or.inr (hw _ (List.mem_of_getElem? (i := 24) rfl))) (ty := (.array .byte)) (by decide)
  have F56_tag : Fld Z h56 b56 "com/example/linkvouch/linkvouch/apk/Der" "tag" "I" (.int 0) := D56 (Or.inr (hw _ (List.mem_of_getElem? (i := 26) rfl))) (ty := .int) (by decide)
  have F56_start : Fld Z h56 b56 "com/example/linkvouch/linkvouch/apk/Der" "start" "I" (.int 0) := D56 (Or.inr (hw _ (List.mem_of_getElem? (i := 28) rfl))) (ty := .int) (by decide)
  have F56_contentStart : Fld Z h56 b56 "com/example/linkvouch/linkvouch/apk/Der" "contentStart" "I" (.int 0) := D56 (Or.inr (hw _ (List.mem_of_getElem? (i := 30) rfl))) (ty := .int) (by decide)
  have F56_end : Fld Z h56 b56 "com/example/linkvouch/linkvouch/apk/Der" "end" "I" (.int 0) := D56 (Or.inr (hw _ (List.mem_of_getElem? (i := 32) rfl))) (ty := .int) (by decide)
  refine own_st (fr' := (mkF m 180 #[.val (.ref a), oI 0, oI 129, .val (.int (t' &&& (255 : Int32))), oI 127, oI 2, .val (.long (127 : Int64)), .second, .unset, .unset] [(.ref b56)])) st56 ?_
  refine own_st (fr' := (mkF m 181 #[.val (.ref a), oI 0, oI 129, .val (.int (t' &&& (255 : Int32))), oI 127, oI 2, .val (.long (127 : Int64)), .second, .unset, .unset] [(.ref b56), (.ref b56)])) (fun t k => XS.dup X56.here hx rfl (hb hby d4_180) rfl rfl k) ?_
  refine own_st (fr' := (mkF m 182 #[.val (.ref a), oI 0, oI 129, .val (.int (t' &&& (255 : Int32))), oI 127, oI 2, .val (.long (127 : Int64)), .second, .unset, .unset] [(.ref a), (.ref b56), (.ref b56)])) (fun t k => XS.aloadN X56.here hx rfl (hb hby d4_181) rfl rfl k) ?_
  refine own_st (fr' := (mkF m 183 #[.val (.ref a), oI 0, oI 129, .val (.int (t' &&& (255 : Int32))), oI 127, oI 2, .val (.long (127 : Int64)), .second, .unset, .unset] [(.int (t' &&& (255 : Int32))), (.ref a), (.ref b56), (.ref b56)])) (fun t k => XS.iloadN X56.here hx rfl (hb hby d4_182) rfl  k) ?_
  refine own_st (fr' := (mkF m 184 #[.val (.ref a), oI 0, oI 129, .val (.int (t' &&& (255 : Int32))), oI 127, oI 2, .val (.long (127 : Int64)), .second, .unset, .unset] [(.int 0), (.int (t' &&& (255 : Int32))), (.ref a), (.ref b56), (.ref b56)])) (fun t k => XS.iloadN X56.here hx rfl (hb hby d4_183) rfl  k) ?_
  refine own_st (fr' := (mkF m 186 #[.val (.ref a), oI 0, oI 129, .val (.int (t' &&& (255 : Int32))), oI 127, oI 2, .val (.long (127 : Int64)), .second, .unset, .unset] [(.int 2), (.int 0), (.int (t' &&& (255 : Int32))), (.ref a), (.ref b56), (.ref b56)])) (fun t k => XS.iload X56.here hx rfl (hb hby d4_184) rfl  k) ?_
  refine own_st (fr' := (mkF m 188 #[.val (.ref a), oI 0, oI 129, .val (.int (t' &&& (255 : Int32))), oI 127, oI 2, .val (.long (127 : Int64)), .second, .unset, .unset] [(.int 2), (.int 2), (.int 0), (.int (t' &&& (255 : Int32))), (.ref a), (.ref b56), (.ref b56)])) (fun t k => XS.iload X56.here hx rfl (hb hby d4_186) rfl  k) ?_
  refine own_st (fr' := (mkF m 190 #[.val (.ref a), oI 0, oI 129, .val (.int (t' &&& (255 : Int32))), oI 127, oI 2, .val (.long (127 : Int64)), .second, .unset, .unset] [(.long (127 : Int64)), (.int 2), (.int 2), (.int 0), (.int (t' &&& (255 : Int32))), (.ref a), (.ref b56), (.ref b56)])) (fun t k => XS.lload X56.here hx rfl (hb hby d4_188) rfl  k) ?_
  refine own_st (fr' := (mkF m 191 #[.val (.ref a), oI 0, oI 129, .val (.int (t' &&& (255 : Int32))), oI 127, oI 2, .val (.long (127 : Int64)), .second, .unset, .unset] [(.int 127), (.int 2), (.int 2), (.int 0), (.int (t' &&& (255 : Int32))), (.ref a), (.ref b56), (.ref b56)])) (fun t k => XS.l2i X56.here hx rfl (hb hby d4_190) rfl k) ?_
  refine own_st (fr' := (mkF m 192 #[.val (.ref a), oI 0, oI 129, .val (.int (t' &&& (255 : Int32))), oI 127, oI 2, .val (.long (127 : Int64)), .second, .unset, .unset] [(.int 129), (.int 2), (.int 0), (.int (t' &&& (255 : Int32))), (.ref a), (.ref b56), (.ref b56)])) (fun t k => XS.iadd X56.here hx rfl (hb hby d4_191) rfl k) ?_
  refine own_callN X56 hx hZ (y := (⟨"com/example/linkvouch/linkvouch/apk/Der", "<init>", "([BIIII)V"⟩ : MethodName)) hown rfl (hw _ (List.mem_of_getElem? (i := 17) rfl)) (hw _ (List.mem_of_getElem? (i := 18) rfl)) (hw _ (List.mem_of_getElem? (i := 10) rfl)) (hw _ (List.mem_of_getElem? (i := 19) rfl)) (by decide) (a := b56) (argsL := [(.ref a), (.int (t' &&& (255 : Int32))), (.int 0), (.int 2), (.int 129)]) (rest := [(.ref b56)]) (W := 1) (rm_dinit l Z a0 hw [] b56 a (t' &&& (255 : Int32)) (0 : Int32) (2 : Int32) (129 : Int32) h56 n0 (Nat.le_trans Z0 E56.1) F56_bytes F56_tag F56_start F56_contentStart F56_end A56 ge_b56) e56 (by rw [hml]; rfl) (lenOf pd_3 rfl) rfl (Nat.le_of_eq rfl) (hb hby d4_192) (by decide) (by decide) (by decide) (by decide) ?_
  intro v57 T57 L57 X57 hQ57
  obtain ⟨rfl, Nq57, K57, Fc57_0, Fc57_1, Fc57_2, Fc57_3, Fc57_4⟩ := hQ57
  have N57 := Fr.app N0 Nq57
  exact own_retA X57 hx hlk hret rfl rfl (hb hby d4_195) (by decide) (by decide) (⟨⟨b56, rfl, sz_b56, (A56.keep K57), Fc57_0, Fc57_1, Fc57_2, Fc57_3, Fc57_4⟩, N57, (Keep.trans (Keep.ext (Keep.refl h0 []) E56) K57 (allS (Or.inr sz_b56) all0))⟩)
theorem ef_parse3 (m : MethodId) (a : Addr) : entryFrame m #[(.ref a)] 2 = mkF m 0 #[.val (.ref a), .unset] [] := by first | (simp [entryFrame, mkF, argsToLocals, Value.category, maxLocals]; done) | rfl
def Q_parse3 (Z : State) (a : Addr) (t' : Int32) (f : Nat → Value) (h0 : Heap) (n0 : Nat) : Option Value → Heap → List Loc → Prop := fun v h L => (∃ d : Addr, v = some (.ref d) ∧ h0.size ≤ d ∧ Exa Z h d "com/example/linkvouch/linkvouch/apk/Der" ∧ Fld Z h d "com/example/linkvouch/linkvouch/apk/Der" "bytes" "[B" (.ref a) ∧ Fld Z h d "com/example/linkvouch/linkvouch/apk/Der" "tag" "I" (.int (t' &&& 255)) ∧ Fld Z h d "com/example/linkvouch/linkvouch/apk/Der" "start" "I" (.int 0) ∧ Fld Z h d "com/example/linkvouch/linkvouch/apk/Der" "contentStart" "I" (.int 2) ∧ Fld Z h d "com/example/linkvouch/linkvouch/apk/Der" "end" "I" (.int 129)) ∧ Fr n0 L ∧ Keep h0 h []
set_option maxRecDepth 65536 in
set_option maxHeartbeats 40000000 in
theorem rm_parse3 (l : Launch) (Z : State) (a0 : Array Value) (hw : ∀ d ∈ tables_1, d.before a0 Z = true) (ws : List Jvm.Cond) (a : Addr) (t' : Int32) (f : Nat → Value) (h0 : Heap) (n0 : Nat) (Z0 : n0 ≤ h0.size) (VA : own_A Z h0 a .byte 129 f) (h_0 : f 0 = .int t') (h_1 : f 1 = .int (127)) (htag : ¬ ((t' &&& 255) &&& 31).toInt = 31) :
    MetFree l (⟨"com/example/linkvouch/linkvouch/apk/Der", "parse", "([B)Lcom/example/linkvouch/linkvouch/apk/Der;"⟩ : MethodName) (head1 (Jvm.Cond.code (⟨"com/example/linkvouch/linkvouch/apk/Der", "parse", "([B)Lcom/example/linkvouch/linkvouch/apk/Der;"⟩ : MethodName) prog_30_method_2_code 2 (some (.object "com/example/linkvouch/linkvouch/apk/Der")) :: ws) ({ frames := 3, cells := 1, slots := 5, locals := 70 } : Room)) (fun aX U => aX = #[(.ref a)] ∧ Z.Warmed39 U.vm ∧ U.heap = h0) (fun _ _ _ _ _ => True) (fun _ U o U' => ∃ v L, o = .returned v ∧ (Q_parse3 Z a t' f h0 n0) v U'.heap L ∧ FrameEnd U o U' L ({ frames := 3, cells := 1, slots := 5, locals := 70 } : Room).cells ({ frames := 3, cells := 1, slots := 5, locals := 70 } : Room).slots) := by
  refine own_met (Q := (Q_parse3 Z a t' f h0 n0)) (plainFor_of_name (x := (⟨"com/example/linkvouch/linkvouch/apk/Der", "parse", "([B)Lcom/example/linkvouch/linkvouch/apk/Der;"⟩ : MethodName)) pn_1) (fun m => ef_parse3 m a) ?_
  intro p e s m below meth cD s₁ hx hby hml hret hlk hZ hown hnm X0 e0 hs0
  have hown : s.vm.findClass "com/example/linkvouch/linkvouch/apk/Der" = some m.cls := hown
  have N0 := Fr.nil n0
  refine own_st (fr' := (mkF m 1 #[.val (.ref a), .unset] [(.ref a)])) (fun t k => XS.aloadN X0.here hx rfl (hb hby d3_0) rfl rfl k) ?_
  refine own_st (fr' := (mkF m 2 #[.val (.ref a), .unset] [(.int 0), (.ref a)])) (fun t k => XS.iconst X0.here hx rfl (hb hby d3_1) k) ?_
  refine own_st (fr' := (mkF m 3 #[.val (.ref a), .unset] [(.ref a), (.int 0), (.ref a)])) (fun t k => XS.aloadN X0.here hx rfl (hb hby d3_2) rfl rfl k) ?_
  refine own_alen X0 hx hZ e0 VA (hb hby d3_3) ?_
  refine own_callS X0 hx hZ (y := (⟨"com/example/linkvouch/linkvouch/apk/Der", "read", "([BII)Lcom/example/linkvouch/linkvouch/apk/Der;"⟩ : MethodName)) hown (hw _ (List.mem_of_getElem? (i := 12) rfl)) (hw _ (List.mem_of_getElem? (i := 13) rfl)) (hw _ (List.mem_of_getElem? (i := 10) rfl)) (hw _ (List.mem_of_getElem? (i := 14) rfl)) (by decide) (argsL := [(.ref a), (.int 0), (.int 129)]) (rest := []) (W := 0) (rm_read3 l Z a0 hw [] a t' f h0 n0 Z0 VA h_0 h_1 htag) e0 (by rw [hml]; rfl) (lenOf pd_4 rfl) rfl (Nat.le_of_eq rfl) (hb hby d3_4) (by decide) (by decide) (by decide) (by decide) ?_
  intro v58 T58 L58 X58 hQ58
  obtain ⟨⟨d, rfl, hd0, Ed, Fd0, Fd1, Fd2, Fd3, Fd4⟩, Nq58, K58⟩ := hQ58
  have N58 := Fr.app N0 Nq58
  refine own_st (fr' := (mkF m 8 #[.val (.ref a), .val (.ref d)] [])) (fun t k => XS.astoreN X58.here hx rfl (hb hby d3_7) rfl rfl (l' := #[.val (.ref a), .val (.ref d)]) rfl k) ?_
  refine own_st (fr' := (mkF m 9 #[.val (.ref a), .val (.ref d)] [(.ref d)])) (fun t k => XS.aloadN X58.here hx rfl (hb hby d3_8) rfl rfl k) ?_
  obtain ⟨T59, X59, e59, st59⟩ := getF X58 hx hZ hown (host := "") (Or.inl (hw _ (List.mem_of_getElem? (i := 31) rfl))) Via.refl rfl Fd4 (g := (mkF m 9 #[.val (.ref a), .val (.ref d)] [(.ref d)])) rfl rfl (hb hby d3_9)
  refine own_st (fr' := (mkF m 12 #[.val (.ref a), .val (.ref d)] [(.int 129)])) st59 ?_
  refine own_st (fr' := (mkF m 13 #[.val (.ref a), .val (.ref d)] [(.ref a), (.int 129)])) (fun t k => XS.aloadN X59.here hx rfl (hb hby d3_12) rfl rfl k) ?_
  refine own_alen X59 hx hZ e59 (VA.keep K58 nin0) (hb hby d3_13) ?_
  refine own_st (fr' := (mkF m 27 #[.val (.ref a), .val (.ref d)] [])) (fun t k => XS.icmpYes X59.here hx rfl (pc0 := 14) (pc' := 27) rfl (hb hby d3_14) rfl (own_teq (x := (129 : Int32)) (y := (129 : Int32)) (show 129 = 129 from by decide)).1 (by decide) (by decide) k) ?_
  refine own_st (fr' := (mkF m 28 #[.val (.ref a), .val (.ref d)] [(.ref d)])) (fun t k => XS.aloadN X59.here hx rfl (hb hby d3_27) rfl rfl k) ?_
  exact own_retA X59 hx hlk hret rfl rfl (hb hby d3_28) (by decide) (by decide) (by rw [e59]; exact ⟨⟨d, rfl, hd0, Ed, Fd0, Fd1, Fd2, Fd3, Fd4⟩, N58, (Keep.trans (Keep.refl h0 []) K58 all0)⟩)
theorem ef_cont3 (m : MethodId) (d : Addr) : entryFrame m #[(.ref d)] 1 = mkF m 0 #[.val (.ref d)] [] := by first | (simp [entryFrame, mkF, argsToLocals, Value.category, maxLocals]; done) | rfl
def Q_cont3 (Z : State) (d : Addr) (a : Addr) (f : Nat → Value) (h0 : Heap) (n0 : Nat) : Option Value → Heap → List Loc → Prop := fun v h L => (∃ (r : Addr) (g : Nat → Value), v = some (.ref r) ∧ h0.size ≤ r ∧ own_A Z h r .byte 127 g ∧ ∀ i : Nat, i < 127 → g i = f (2 + i)) ∧ Fr n0 L ∧ Keep h0 h []
set_option maxRecDepth 65536 in
set_option maxHeartbeats 40000000 in
theorem rm_cont3 (l : Launch) (Z : State) (a0 : Array Value) (hw : ∀ d ∈ tables_1, d.before a0 Z = true) (ws : List Jvm.Cond) (d : Addr) (a : Addr) (f : Nat → Value) (h0 : Heap) (n0 : Nat) (Z0 : n0 ≤ h0.size) (F_bytes : Fld Z h0 d "com/example/linkvouch/linkvouch/apk/Der" "bytes" "[B" (.ref a)) (VA : own_A Z h0 a .byte 129 f) (EA : Exa Z h0 a "[B") (F_end : Fld Z h0 d "com/example/linkvouch/linkvouch/apk/Der" "end" "I" (.int 129)) (F_contentStart : Fld Z h0 d "com/example/linkvouch/linkvouch/apk/Der" "contentStart" "I" (.int 2)) :
    MetFree l (⟨"com/example/linkvouch/linkvouch/apk/Der", "content", "()[B"⟩ : MethodName) (head1 (Jvm.Cond.code (⟨"com/example/linkvouch/linkvouch/apk/Der", "content", "()[B"⟩ : MethodName) prog_30_method_9_code 1 (some (.array .byte)) :: ws) ({ frames := 3, cells := 1, slots := 304, locals := 110 } : Room)) (fun aX U => aX = #[(.ref d)] ∧ Z.Warmed39 U.vm ∧ U.heap = h0) (fun _ _ _ _ _ => True) (fun _ U o U' => ∃ v L, o = .returned v ∧ (Q_cont3 Z d a f h0 n0) v U'.heap L ∧ FrameEnd U o U' L ({ frames := 3, cells := 1, slots := 304, locals := 110 } : Room).cells ({ frames := 3, cells := 1, slots := 304, locals := 110 } : Room).slots) := by
  refine own_met (Q := (Q_cont3 Z d a f h0 n0)) (plainFor_of_name (x := (⟨"com/example/linkvouch/linkvouch/apk/Der", "content", "()[B"⟩ : MethodName)) pn_1) (fun m => ef_cont3 m d) ?_
  intro p e s m below meth cD s₁ hx hby hml hret hlk hZ hown hnm X0 e0 hs0
  have hown : s.vm.findClass "com/example/linkvouch/linkvouch/apk/Der" = some m.cls := hown
  have N0 := Fr.nil n0
  refine own_st (fr' := (mkF m 1 #[.val (.ref d)] [(.ref d)])) (fun t k => XS.aloadN X0.here hx rfl (hb hby d7_0) rfl rfl k) ?_
  obtain ⟨T60, X60, e60, st60⟩ := getF X0 hx hZ hown (host := "") (Or.inl (hw _ (List.mem_of_getElem? (i := 23) rfl))) Via.refl e0 F_bytes (g := (mkF m 1 #[.val (.ref d)] [(.ref d)])) rfl rfl (hb hby d7_1)
  refine own_st (fr' := (mkF m 4 #[.val (.ref d)] [(.ref a)])) st60 ?_
  refine own_st (fr' := (mkF m 5 #[.val (.ref d)] [(.ref d), (.ref a)])) (fun t k => XS.aloadN X60.here hx rfl (hb hby d7_4) rfl rfl k) ?_
  obtain ⟨T61, X61, e61, st61⟩ := getF X60 hx hZ hown (host := "") (Or.inl (hw _ (List.mem_of_getElem? (i := 29) rfl))) Via.refl e60 F_contentStart (g := (mkF m 5 #[.val (.ref d)] [(.ref d), (.ref a)])) rfl rfl (hb hby d7_5)
  refine own_st (fr' := (mkF m 8 #[.val (.ref d)] [(.int 2), (.ref a)])) st61 ?_
  refine own_st (fr' := (mkF m 9 #[.val (.ref d)] [(.ref d), (.int 2), (.ref a)])) (fun t k => XS.aloadN X61.here hx rfl (hb hby d7_8) rfl rfl k) ?_
  obtain ⟨T62, X62, e62, st62⟩ := getF X61 hx hZ hown (host := "") (Or.inl (hw _ (List.mem_of_getElem? (i := 31) rfl))) Via.refl e61 F_end (g := (mkF m 9 #[.val (.ref d)] [(.ref d), (.int 2), (.ref a)])) rfl rfl (hb hby d7_9)
  refine own_st (fr' := (mkF m 12 #[.val (.ref d)] [(.int 129), (.int 2), (.ref a)])) st62 ?_
  refine own_callS X62 hx hZ (y := (⟨"java/util/Arrays", "copyOfRange", "([BII)[B"⟩ : MethodName)) hown (hw _ (List.mem_of_getElem? (i := 38) rfl)) (hw _ (List.mem_of_getElem? (i := 39) rfl)) (hw _ (List.mem_of_getElem? (i := 40) rfl)) (hw _ (List.mem_of_getElem? (i := 41) rfl)) (by decide) (argsL := [(.ref a), (.int 2), (.int 129)]) (rest := []) (W := 0) (rm_cr1 l Z a0 hw [] a (2 : Int32) (129 : Int32) (129 : Int32) f h0 n0 Z0 VA EA ⟨by decide, by decide, by decide⟩ (by decide) (by decide)) e62 (by rw [hml]; rfl) (lenOf pd_2 rfl) rfl (Nat.le_of_eq rfl) (hb hby d7_12) (by decide) (by decide) (by decide) (by decide) ?_
  intro v63 T63 L63 X63 hQ63
  obtain ⟨⟨r, g, nl, rfl, hr, hnl, VR, hg⟩, Nq63, K63⟩ := hQ63
  have N63 := Fr.app N0 Nq63
  have enl : nl = (127 : Int32) := Int32.toInt_inj.mp (hnl.trans (by decide))
  subst enl
  exact own_retA X63 hx hlk hret rfl rfl (hb hby d7_15) (by decide) (by decide) (⟨⟨r, g, rfl, hr, VR, fun i hi => hg i (by show (i : Int) < (129 : Int) - 2; omega)⟩, N63, K63⟩)
theorem ef_enc3 (m : MethodId) (d : Addr) : entryFrame m #[(.ref d)] 1 = mkF m 0 #[.val (.ref d)] [] := by first | (simp [entryFrame, mkF, argsToLocals, Value.category, maxLocals]; done) | rfl
def Q_enc3 (Z : State) (d : Addr) (a : Addr) (f : Nat → Value) (h0 : Heap) (n0 : Nat) : Option Value → Heap → List Loc → Prop := fun v h L => (∃ r : Addr, v = some (.ref r) ∧ h0.size ≤ r ∧ own_A Z h r .byte 129 f) ∧ Fr n0 L ∧ Keep h0 h []
set_option maxRecDepth 65536 in
set_option maxHeartbeats 40000000 in
theorem rm_enc3 (l : Launch) (Z : State) (a0 : Array Value) (hw : ∀ d ∈ tables_1, d.before a0 Z = true) (ws : List Jvm.Cond) (d : Addr) (a : Addr) (f : Nat → Value) (h0 : Heap) (n0 : Nat) (Z0 : n0 ≤ h0.size) (F_bytes : Fld Z h0 d "com/example/linkvouch/linkvouch/apk/Der" "bytes" "[B" (.ref a)) (VA : own_A Z h0 a .byte 129 f) (EA : Exa Z h0 a "[B") (F_end : Fld Z h0 d "com/example/linkvouch/linkvouch/apk/Der" "end" "I" (.int 129)) (F_start : Fld Z h0 d "com/example/linkvouch/linkvouch/apk/Der" "start" "I" (.int 0)) :
    MetFree l (⟨"com/example/linkvouch/linkvouch/apk/Der", "encoded", "()[B"⟩ : MethodName) (head1 (Jvm.Cond.code (⟨"com/example/linkvouch/linkvouch/apk/Der", "encoded", "()[B"⟩ : MethodName) prog_30_method_8_code 1 (some (.array .byte)) :: ws) ({ frames := 2, cells := 1, slots := 304, locals := 60 } : Room)) (fun aX U => aX = #[(.ref d)] ∧ Z.Warmed39 U.vm ∧ U.heap = h0) (fun _ _ _ _ _ => True) (fun _ U o U' => ∃ v L, o = .returned v ∧ (Q_enc3 Z d a f h0 n0) v U'.heap L ∧ FrameEnd U o U' L ({ frames := 2, cells := 1, slots := 304, locals := 60 } : Room).cells ({ frames := 2, cells := 1, slots := 304, locals := 60 } : Room).slots) := by
  refine own_met (Q := (Q_enc3 Z d a f h0 n0)) (plainFor_of_name (x := (⟨"com/example/linkvouch/linkvouch/apk/Der", "encoded", "()[B"⟩ : MethodName)) pn_1) (fun m => ef_enc3 m d) ?_
  intro p e s m below meth cD s₁ hx hby hml hret hlk hZ hown hnm X0 e0 hs0
  have hown : s.vm.findClass "com/example/linkvouch/linkvouch/apk/Der" = some m.cls := hown
  have N0 := Fr.nil n0
  refine own_st (fr' := (mkF m 1 #[.val (.ref d)] [(.ref d)])) (fun t k => XS.aloadN X0.here hx rfl (hb hby d12_0) rfl rfl k) ?_
  obtain ⟨T64, X64, e64, st64⟩ := getF X0 hx hZ hown (host := "") (Or.inl (hw _ (List.mem_of_getElem? (i := 23) rfl))) Via.refl e0 F_bytes (g := (mkF m 1 #[.val (.ref d)] [(.ref d)])) rfl rfl (hb hby d12_1)
  refine own_st (fr' := (mkF m 4 #[.val (.ref d)] [(.ref a)])) st64 ?_
  refine own_st (fr' := (mkF m 5 #[.val (.ref d)] [(.ref d), (.ref a)])) (fun t k => XS.aloadN X64.here hx rfl (hb hby d12_4) rfl rfl k) ?_
  obtain ⟨T65, X65, e65, st65⟩ := getF X64 hx hZ hown (host := "") (Or.inl (hw _ (List.mem_of_getElem? (i := 27) rfl))) Via.refl e64 F_start (g := (mkF m 5 #[.val (.ref d)] [(.ref d), (.ref a)])) rfl rfl (hb hby d12_5)
  refine own_st (fr' := (mkF m 8 #[.val (.ref d)] [(.int 0), (.ref a)])) st65 ?_
  refine own_st (fr' := (mkF m 9 #[.val (.ref d)] [(.ref d), (.int 0), (.ref a)])) (fun t k => XS.aloadN X65.here hx rfl (hb hby d12_8) rfl rfl k) ?_
  obtain ⟨T66, X66, e66, st66⟩ := getF X65 hx hZ hown (host := "") (Or.inl (hw _ (List.mem_of_getElem? (i := 31) rfl))) Via.refl e65 F_end (g := (mkF m 9 #[.val (.ref d)] [(.ref d), (.int 0), (.ref a)])) rfl rfl (hb hby d12_9)
  refine own_st (fr' := (mkF m 12 #[.val (.ref d)] [(.int 129), (.int 0), (.ref a)])) st66 ?_
  refine own_callS X66 hx hZ (y := (⟨"java/util/Arrays", "copyOfRange", "([BII)[B"⟩ : MethodName)) hown (hw _ (List.mem_of_getElem? (i := 38) rfl)) (hw _ (List.mem_of_getElem? (i := 39) rfl)) (hw _ (List.mem_of_getElem? (i := 40) rfl)) (hw _ (List.mem_of_getElem? (i := 41) rfl)) (by decide) (argsL := [(.ref a), (.int 0), (.int 129)]) (rest := []) (W := 0) (rm_cr0 l Z a0 hw [] a (129 : Int32) f h0 n0 Z0 VA EA (by decide)) e66 (by rw [hml]; rfl) (lenOf pd_2 rfl) rfl (Nat.le_of_eq rfl) (hb hby d12_12) (by decide) (by decide) (by decide) (by decide) ?_
  intro v67 T67 L67 X67 hQ67
  obtain ⟨⟨r, rfl, hr, VR⟩, Nq67, K67⟩ := hQ67
  have N67 := Fr.app N0 Nq67
  exact own_retA X67 hx hlk hret rfl rfl (hb hby d12_15) (by decide) (by decide) (⟨⟨r, rfl, hr, VR⟩, N67, K67⟩)
theorem d1_28 : decode method_3_code 28 = .ok (.iload_n 0, 1) := by decide +kernel
theorem d1_29 : decode method_3_code 29 = .ok (.iconst 4, 1) := by decide +kernel
theorem d1_30 : decode method_3_code 30 = .ok (.if_icmp .ne 7, 3) := by decide +kernel
theorem d1_33 : decode method_3_code 33 = .ok (.sipush 128, 3) := by decide +kernel
theorem d1_36 : decode method_3_code 36 = .ok (.ireturn, 1) := by decide +kernel
theorem ef_len4 (m : MethodId)  : entryFrame m #[(.int 4)] 1 = mkF m 0 #[oI 4] [] := by first | (simp [entryFrame, mkF, argsToLocals, Value.category, maxLocals]; done) | rfl
def Q_len4 (Z : State)  (h0 : Heap) (n0 : Nat) : Option Value → Heap → List Loc → Prop := fun v h L => v = some (.int 128) ∧ Fr n0 L ∧ h = h0
set_option maxRecDepth 65536 in
set_option maxHeartbeats 40000000 in
theorem rm_len4 (l : Launch) (Z : State) (a0 : Array Value) (hw : ∀ d ∈ tables_1, d.before a0 Z = true) (ws : List Jvm.Cond)  (h0 : Heap) (n0 : Nat) (Z0 : n0 ≤ h0.size)  :
    MetFree l (⟨"com/example/linkvouch/linkvouch/apk/DerParsePinLaw", "lengthOf", "(I)I"⟩ : MethodName) (head1 (Jvm.Cond.code (⟨"com/example/linkvouch/linkvouch/apk/DerParsePinLaw", "lengthOf", "(I)I"⟩ : MethodName) method_3_code 1 (some .int) :: ws) ({ frames := 0, cells := 0, slots := 0, locals := 0 } : Room)) (fun aX U => aX = #[(.int 4)] ∧ Z.Warmed39 U.vm ∧ U.heap = h0) (fun _ _ _ _ _ => True) (fun _ U o U' => ∃ v L, o = .returned v ∧ (Q_len4 Z  h0 n0) v U'.heap L ∧ FrameEnd U o U' L ({ frames := 0, cells := 0, slots := 0, locals := 0 } : Room).cells ({ frames := 0, cells := 0, slots := 0, locals := 0 } : Room).slots) := by
  refine own_met (Q := (Q_len4 Z  h0 n0)) (plainFor_of_name (x := (⟨"com/example/linkvouch/linkvouch/apk/DerParsePinLaw", "lengthOf", "(I)I"⟩ : MethodName)) pn_2) (fun m => ef_len4 m ) ?_
  intro p e s m below meth cD s₁ hx hby hml hret hlk hZ hown hnm X0 e0 hs0
  have hown : s.vm.findClass "com/example/linkvouch/linkvouch/apk/DerParsePinLaw" = some m.cls := hown
  have N0 := Fr.nil n0
  refine own_st (fr' := (mkF m 1 #[oI 4] [(.int 4)])) (fun t k => XS.iloadN X0.here hx rfl (hb hby d1_0) rfl  k) ?_
  refine own_st (fr' := (mkF m 6 #[oI 4] [])) (fun t k => XS.ifYes X0.here hx rfl (pc0 := 1) (pc' := 6) rfl (hb hby d1_1) rfl ((if0 _ _).trans (own_feq (x := (4 : Int32)) (y := (0 : Int32)) (show ¬ 4 = 0 from by decide)).2) (by decide) (by decide) k) ?_
  refine own_st (fr' := (mkF m 7 #[oI 4] [(.int 4)])) (fun t k => XS.iloadN X0.here hx rfl (hb hby d1_6) rfl  k) ?_
  refine own_st (fr' := (mkF m 8 #[oI 4] [(.int 1), (.int 4)])) (fun t k => XS.iconst X0.here hx rfl (hb hby d1_7) k) ?_
  refine own_st (fr' := (mkF m 13 #[oI 4] [])) (fun t k => XS.icmpYes X0.here hx rfl (pc0 := 8) (pc' := 13) rfl (hb hby d1_8) rfl (own_feq (x := (4 : Int32)) (y := (1 : Int32)) (show ¬ 4 = 1 from by decide)).2 (by decide) (by decide) k) ?_
  refine own_st (fr' := (mkF m 14 #[oI 4] [(.int 4)])) (fun t k => XS.iloadN X0.here hx rfl (hb hby d1_13) rfl  k) ?_
  refine own_st (fr' := (mkF m 15 #[oI 4] [(.int 2), (.int 4)])) (fun t k => XS.iconst X0.here hx rfl (hb hby d1_14) k) ?_
  refine own_st (fr' := (mkF m 20 #[oI 4] [])) (fun t k => XS.icmpYes X0.here hx rfl (pc0 := 15) (pc' := 20) rfl (hb hby d1_15) rfl (own_feq (x := (4 : Int32)) (y := (2 : Int32)) (show ¬ 4 = 2 from by decide)).2 (by decide) (by decide) k) ?_
  refine own_st (fr' := (mkF m 21 #[oI 4] [(.int 4)])) (fun t k => XS.iloadN X0.here hx rfl (hb hby d1_20) rfl  k) ?_
  refine own_st (fr' := (mkF m 22 #[oI 4] [(.int 3), (.int 4)])) (fun t k => XS.iconst X0.here hx rfl (hb hby d1_21) k) ?_
  refine own_st (fr' := (mkF m 28 #[oI 4] [])) (fun t k => XS.icmpYes X0.here hx rfl (pc0 := 22) (pc' := 28) rfl (hb hby d1_22) rfl (own_feq (x := (4 : Int32)) (y := (3 : Int32)) (show ¬ 4 = 3 from by decide)).2 (by decide) (by decide) k) ?_
  refine own_st (fr' := (mkF m 29 #[oI 4] [(.int 4)])) (fun t k => XS.iloadN X0.here hx rfl (hb hby d1_28) rfl  k) ?_
  refine own_st (fr' := (mkF m 30 #[oI 4] [(.int 4), (.int 4)])) (fun t k => XS.iconst X0.here hx rfl (hb hby d1_29) k) ?_
  refine own_st (fr' := (mkF m 33 #[oI 4] [])) (fun t k => XS.icmpNo X0.here hx rfl (hb hby d1_30) rfl (own_teq (x := (4 : Int32)) (y := (4 : Int32)) (show 4 = 4 from by decide)).2 k) ?_
  refine own_st (fr' := (mkF m 36 #[oI 4] [(.int 128)])) (fun t k => XS.sipush X0.here hx rfl (hb hby d1_33) k) ?_
  exact own_retI X0 hx hlk hret (hb hby d1_36) (by decide) (by decide) (⟨rfl, N0, e0⟩)
theorem d2_37 : decode method_2_code 37 = .ok (.iload_n 0, 1) := by decide +kernel
theorem d2_38 : decode method_2_code 38 = .ok (.iconst 4, 1) := by decide +kernel
theorem d2_39 : decode method_2_code 39 = .ok (.if_icmp .ne 9, 3) := by decide +kernel
theorem d2_42 : decode method_2_code 42 = .ok (.sipush 131, 3) := by decide +kernel
theorem d2_45 : decode method_2_code 45 = .ok (.newarray .byte, 2) := by decide +kernel
theorem d2_47 : decode method_2_code 47 = .ok (.areturn, 1) := by decide +kernel
theorem ef_alloc4 (m : MethodId)  : entryFrame m #[(.int 4)] 1 = mkF m 0 #[oI 4] [] := by first | (simp [entryFrame, mkF, argsToLocals, Value.category, maxLocals]; done) | rfl
def Q_alloc4 (Z : State)  (h0 : Heap) (n0 : Nat) : Option Value → Heap → List Loc → Prop := fun v h L => (∃ r : Addr, v = some (.ref r) ∧ h0.size ≤ r ∧ n0 ≤ r ∧ own_A Z h r .byte 131 (fun _ => .int 0) ∧ Exa Z h r "[B") ∧ Fr n0 L ∧ Keep h0 h []
set_option maxRecDepth 65536 in
set_option maxHeartbeats 40000000 in
theorem rm_alloc4 (l : Launch) (Z : State) (a0 : Array Value) (hw : ∀ d ∈ tables_1, d.before a0 Z = true) (ws : List Jvm.Cond)  (h0 : Heap) (n0 : Nat) (Z0 : n0 ≤ h0.size)  :
    MetFree l (⟨"com/example/linkvouch/linkvouch/apk/DerParsePinLaw", "alloc", "(I)[B"⟩ : MethodName) (head1 (Jvm.Cond.code (⟨"com/example/linkvouch/linkvouch/apk/DerParsePinLaw", "alloc", "(I)[B"⟩ : MethodName) method_2_code 1 (some (.array .byte)) :: ws) ({ frames := 0, cells := 1, slots := 131, locals := 0 } : Room)) (fun aX U => aX = #[(.int 4)] ∧ Z.Warmed39 U.vm ∧ U.heap = h0) (fun _ _ _ _ _ => True) (fun _ U o U' => ∃ v L, o = .returned v ∧ (Q_alloc4 Z  h0 n0) v U'.heap L ∧ FrameEnd U o U' L ({ frames := 0, cells := 1, slots := 131, locals := 0 } : Room).cells ({ frames := 0, cells := 1, slots := 131, locals := 0 } : Room).slots) := by
  refine own_met (Q := (Q_alloc4 Z  h0 n0)) (plainFor_of_name (x := (⟨"com/example/linkvouch/linkvouch/apk/DerParsePinLaw", "alloc", "(I)[B"⟩ : MethodName)) pn_2) (fun m => ef_alloc4 m ) ?_
  intro p e s m below meth cD s₁ hx hby hml hret hlk hZ hown hnm X0 e0 hs0
  have hown : s.vm.findClass "com/example/linkvouch/linkvouch/apk/DerParsePinLaw" = some m.cls := hown
  have N0 := Fr.nil n0
  refine own_st (fr' := (mkF m 1 #[oI 4] [(.int 4)])) (fun t k => XS.iloadN X0.here hx rfl (hb hby d2_0) rfl  k) ?_
  refine own_st (fr' := (mkF m 8 #[oI 4] [])) (fun t k => XS.ifYes X0.here hx rfl (pc0 := 1) (pc' := 8) rfl (hb hby d2_1) rfl ((if0 _ _).trans (own_feq (x := (4 : Int32)) (y := (0 : Int32)) (show ¬ 4 = 0 from by decide)).2) (by decide) (by decide) k) ?_
  refine own_st (fr' := (mkF m 9 #[oI 4] [(.int 4)])) (fun t k => XS.iloadN X0.here hx rfl (hb hby d2_8) rfl  k) ?_
  refine own_st (fr' := (mkF m 10 #[oI 4] [(.int 1), (.int 4)])) (fun t k => XS.iconst X0.here hx rfl (hb hby d2_9) k) ?_
  refine own_st (fr' := (mkF m 17 #[oI 4] [])) (fun t k => XS.icmpYes X0.here hx rfl (pc0 := 10) (pc' := 17) rfl (hb hby d2_10) rfl (own_feq (x := (4 : Int32)) (y := (1 : Int32)) (show ¬ 4 = 1 from by decide)).2 (by decide) (by decide) k) ?_
  refine own_st (fr' := (mkF m 18 #[oI 4] [(.int 4)])) (fun t k => XS.iloadN X0.here hx rfl (hb hby d2_17) rfl  k) ?_
  refine own_st (fr' := (mkF m 19 #[oI 4] [(.int 2), (.int 4)])) (fun t k => XS.iconst X0.here hx rfl (hb hby d2_18) k) ?_
  refine own_st (fr' := (mkF m 26 #[oI 4] [])) (fun t k => XS.icmpYes X0.here hx rfl (pc0 := 19) (pc' := 26) rfl (hb hby d2_19) rfl (own_feq (x := (4 : Int32)) (y := (2 : Int32)) (show ¬ 4 = 2 from by decide)).2 (by decide) (by decide) k) ?_
  refine own_st (fr' := (mkF m 27 #[oI 4] [(.int 4)])) (fun t k => XS.iloadN X0.here hx rfl (hb hby d2_26) rfl  k) ?_
  refine own_st (fr' := (mkF m 28 #[oI 4] [(.int 3), (.int 4)])) (fun t k => XS.iconst X0.here hx rfl (hb hby d2_27) k) ?_
  refine own_st (fr' := (mkF m 37 #[oI 4] [])) (fun t k => XS.icmpYes X0.here hx rfl (pc0 := 28) (pc' := 37) rfl (hb hby d2_28) rfl (own_feq (x := (4 : Int32)) (y := (3 : Int32)) (show ¬ 4 = 3 from by decide)).2 (by decide) (by decide) k) ?_
  refine own_st (fr' := (mkF m 38 #[oI 4] [(.int 4)])) (fun t k => XS.iloadN X0.here hx rfl (hb hby d2_37) rfl  k) ?_
  refine own_st (fr' := (mkF m 39 #[oI 4] [(.int 4), (.int 4)])) (fun t k => XS.iconst X0.here hx rfl (hb hby d2_38) k) ?_
  refine own_st (fr' := (mkF m 42 #[oI 4] [])) (fun t k => XS.icmpNo X0.here hx rfl (hb hby d2_39) rfl (own_teq (x := (4 : Int32)) (y := (4 : Int32)) (show 4 = 4 from by decide)).2 k) ?_
  refine own_st (fr' := (mkF m 45 #[oI 4] [(.int 131)])) (fun t k => XS.sipush X0.here hx rfl (hb hby d2_42) k) ?_
  refine own_newarrE X0 hx hZ (hw _ (List.mem_of_getElem? (i := 7) rfl)) e0 (hb hby d2_45) (by decide) (cap := 131) (by decide) (by decide) (by decide) (by decide) rfl (C := "[B") rfl ?_
  intro T68 h68 b68 g68 X68 e68 E68 VA68 EX68
  have V68 := own_B.new VA68
  have ge_b68 : n0 ≤ b68 := Nat.le_trans Z0 (Nat.le_of_eq g68.symm)
  have sz_b68 : h0.size ≤ b68 := Nat.le_trans (Nat.le_refl _) (Nat.le_of_eq g68.symm)
  exact own_retA X68 hx hlk hret rfl rfl (hb hby d2_47) (by decide) (by decide) (by rw [e68]; exact ⟨⟨b68, rfl, sz_b68, ge_b68, VA68, EX68⟩, N0, (Keep.ext (Keep.refl h0 []) E68)⟩)
theorem d4_73 : decode prog_30_method_3_code 73 = .ok (.iload 4, 2) := by decide +kernel
theorem d4_75 : decode prog_30_method_3_code 75 = .ok (.bipush 127, 2) := by decide +kernel
theorem d4_77 : decode prog_30_method_3_code 77 = .ok (.iand, 1) := by decide +kernel
theorem d4_78 : decode prog_30_method_3_code 78 = .ok (.istore 8, 2) := by decide +kernel
theorem d4_80 : decode prog_30_method_3_code 80 = .ok (.iload 8, 2) := by decide +kernel
theorem d4_82 : decode prog_30_method_3_code 82 = .ok (.ifCond .eq 18, 3) := by decide +kernel
theorem d4_85 : decode prog_30_method_3_code 85 = .ok (.iload 8, 2) := by decide +kernel
theorem d4_87 : decode prog_30_method_3_code 87 = .ok (.iconst 4, 1) := by decide +kernel
theorem d4_88 : decode prog_30_method_3_code 88 = .ok (.if_icmp .gt 12, 3) := by decide +kernel
theorem d4_91 : decode prog_30_method_3_code 91 = .ok (.iload 8, 2) := by decide +kernel
theorem d4_93 : decode prog_30_method_3_code 93 = .ok (.iload_n 2, 1) := by decide +kernel
theorem d4_94 : decode prog_30_method_3_code 94 = .ok (.iload 5, 2) := by decide +kernel
theorem d4_96 : decode prog_30_method_3_code 96 = .ok (.isub, 1) := by decide +kernel
theorem d4_97 : decode prog_30_method_3_code 97 = .ok (.if_icmp .le 13, 3) := by decide +kernel
theorem d4_110 : decode prog_30_method_3_code 110 = .ok (.lconst 0, 1) := by decide +kernel
theorem d4_111 : decode prog_30_method_3_code 111 = .ok (.lstore 6, 2) := by decide +kernel
theorem d4_113 : decode prog_30_method_3_code 113 = .ok (.iconst 0, 1) := by decide +kernel
theorem d4_114 : decode prog_30_method_3_code 114 = .ok (.istore 9, 2) := by decide +kernel
theorem d4_116 : decode prog_30_method_3_code 116 = .ok (.iload 9, 2) := by decide +kernel
theorem d4_118 : decode prog_30_method_3_code 118 = .ok (.iload 8, 2) := by decide +kernel
theorem d4_120 : decode prog_30_method_3_code 120 = .ok (.if_icmp .ge 29, 3) := by decide +kernel
theorem d4_123 : decode prog_30_method_3_code 123 = .ok (.lload 6, 2) := by decide +kernel
theorem d4_125 : decode prog_30_method_3_code 125 = .ok (.bipush 8, 2) := by decide +kernel
theorem d4_127 : decode prog_30_method_3_code 127 = .ok (.lshl, 1) := by decide +kernel
theorem d4_128 : decode prog_30_method_3_code 128 = .ok (.aload_n 0, 1) := by decide +kernel
theorem d4_129 : decode prog_30_method_3_code 129 = .ok (.iload 5, 2) := by decide +kernel
theorem d4_131 : decode prog_30_method_3_code 131 = .ok (.iload 9, 2) := by decide +kernel
theorem d4_133 : decode prog_30_method_3_code 133 = .ok (.iadd, 1) := by decide +kernel
theorem d4_134 : decode prog_30_method_3_code 134 = .ok (.baload, 1) := by decide +kernel
theorem d4_135 : decode prog_30_method_3_code 135 = .ok (.sipush 255, 3) := by decide +kernel
theorem d4_138 : decode prog_30_method_3_code 138 = .ok (.iand, 1) := by decide +kernel
theorem d4_139 : decode prog_30_method_3_code 139 = .ok (.i2l, 1) := by decide +kernel
theorem d4_140 : decode prog_30_method_3_code 140 = .ok (.lor, 1) := by decide +kernel
theorem d4_141 : decode prog_30_method_3_code 141 = .ok (.lstore 6, 2) := by decide +kernel
theorem d4_143 : decode prog_30_method_3_code 143 = .ok (.iinc 9 1, 3) := by decide +kernel
theorem d4_146 : decode prog_30_method_3_code 146 = .ok (.goto (-30), 3) := by decide +kernel
theorem d4_149 : decode prog_30_method_3_code 149 = .ok (.iload 5, 2) := by decide +kernel
theorem d4_151 : decode prog_30_method_3_code 151 = .ok (.iload 8, 2) := by decide +kernel
theorem d4_153 : decode prog_30_method_3_code 153 = .ok (.iadd, 1) := by decide +kernel
theorem d4_154 : decode prog_30_method_3_code 154 = .ok (.istore 5, 2) := by decide +kernel
theorem ef_read4 (m : MethodId) (a : Addr) : entryFrame m #[(.ref a), (.int 0), (.int 131)] 10 = mkF m 0 #[.val (.ref a), oI 0, oI 131, .unset, .unset, .unset, .unset, .unset, .unset, .unset] [] := by first | (simp [entryFrame, mkF, argsToLocals, Value.category, maxLocals]; done) | rfl
def Q_read4 (Z : State) (a : Addr) (t' : Int32) (f : Nat → Value) (h0 : Heap) (n0 : Nat) : Option Value → Heap → List Loc → Prop := fun v h L => (∃ d : Addr, v = some (.ref d) ∧ h0.size ≤ d ∧ Exa Z h d "com/example/linkvouch/linkvouch/apk/Der" ∧ Fld Z h d "com/example/linkvouch/linkvouch/apk/Der" "bytes" "[B" (.ref a) ∧ Fld Z h d "com/example/linkvouch/linkvouch/apk/Der" "tag" "I" (.int (t' &&& 255)) ∧ Fld Z h d "com/example/linkvouch/linkvouch/apk/Der" "start" "I" (.int 0) ∧ Fld Z h d "com/example/linkvouch/linkvouch/apk/Der" "contentStart" "I" (.int 3) ∧ Fld Z h d "com/example/linkvouch/linkvouch/apk/Der" "end" "I" (.int 131)) ∧ Fr n0 L ∧ Keep h0 h []
set_option maxRecDepth 65536 in
set_option maxHeartbeats 40000000 in
theorem rm_read4 (l : Launch) (Z : State) (a0 : Array Value) (hw : ∀ d ∈ tables_1, d.before a0 Z = true) (ws : List Jvm.Cond) (a : Addr) (t' : Int32) (f : Nat → Value) (h0 : Heap) (n0 : Nat) (Z0 : n0 ≤ h0.size) (VA : own_A Z h0 a .byte 131 f) (h_0 : f 0 = .int t') (h_1 : f 1 = .int (-127)) (h_2 : f 2 = .int (-128)) (htag : ¬ ((t' &&& 255) &&& 31).toInt = 31) :
    MetFree l (⟨"com/example/linkvouch/linkvouch/apk/Der", "read", "([BII)Lcom/example/linkvouch/linkvouch/apk/Der;"⟩ : MethodName) (head1 (Jvm.Cond.code (⟨"com/example/linkvouch/linkvouch/apk/Der", "read", "([BII)Lcom/example/linkvouch/linkvouch/apk/Der;"⟩ : MethodName) prog_30_method_3_code 10 (some (.object "com/example/linkvouch/linkvouch/apk/Der")) :: ws) ({ frames := 2, cells := 1, slots := 5, locals := 40 } : Room)) (fun aX U => aX = #[(.ref a), (.int 0), (.int 131)] ∧ Z.Warmed39 U.vm ∧ U.heap = h0) (fun _ _ _ _ _ => True) (fun _ U o U' => ∃ v L, o = .returned v ∧ (Q_read4 Z a t' f h0 n0) v U'.heap L ∧ FrameEnd U o U' L ({ frames := 2, cells := 1, slots := 5, locals := 40 } : Room).cells ({ frames := 2, cells := 1, slots := 5, locals := 40 } : Room).slots) := by
  refine own_met (Q := (Q_read4 Z a t' f h0 n0)) (plainFor_of_name (x := (⟨"com/example/linkvouch/linkvouch/apk/Der", "read", "([BII)Lcom/example/linkvouch/linkvouch/apk/Der;"⟩ : MethodName)) pn_1) (fun m => ef_read4 m a) ?_
  intro p e s m below meth cD s₁ hx hby hml hret hlk hZ hown hnm X0 e0 hs0
  have hown : s.vm.findClass "com/example/linkvouch/linkvouch/apk/Der" = some m.cls := hown
  have N0 := Fr.nil n0
  refine own_st (fr' := (mkF m 1 #[.val (.ref a), oI 0, oI 131, .unset, .unset, .unset, .unset, .unset, .unset, .unset] [(.int 131)])) (fun t k => XS.iloadN X0.here hx rfl (hb hby d4_0) rfl  k) ?_
  refine own_st (fr' := (mkF m 2 #[.val (.ref a), oI 0, oI 131, .unset, .unset, .unset, .unset, .unset, .unset, .unset] [(.int 0), (.int 131)])) (fun t k => XS.iloadN X0.here hx rfl (hb hby d4_1) rfl  k) ?_
  refine own_st (fr' := (mkF m 3 #[.val (.ref a), oI 0, oI 131, .unset, .unset, .unset, .unset, .unset, .unset, .unset] [(.int 131)])) (fun t k => XS.isub X0.here hx rfl (hb hby d4_2) rfl k) ?_
  refine own_st (fr' := (mkF m 4 #[.val (.ref a), oI 0, oI 131, .unset, .unset, .unset, .unset, .unset, .unset, .unset] [(.int 2), (.int 131)])) (fun t k => XS.iconst X0.here hx rfl (hb hby d4_3) k) ?_
  refine own_st (fr' := (mkF m 17 #[.val (.ref a), oI 0, oI 131, .unset, .unset, .unset, .unset, .unset, .unset, .unset] [])) (fun t k => XS.icmpYes X0.here hx rfl (pc0 := 4) (pc' := 17) rfl (hb hby d4_4) rfl (own_flt (x := (131 : Int32)) (y := (2 : Int32)) (show ¬ 131 < 2 from by decide)).2.1 (by decide) (by decide) k) ?_
  refine own_st (fr' := (mkF m 18 #[.val (.ref a), oI 0, oI 131, .unset, .unset, .unset, .unset, .unset, .unset, .unset] [(.ref a)])) (fun t k => XS.aloadN X0.here hx rfl (hb hby d4_17) rfl rfl k) ?_
  refine own_st (fr' := (mkF m 19 #[.val (.ref a), oI 0, oI 131, .unset, .unset, .unset, .unset, .unset, .unset, .unset] [(.int 0), (.ref a)])) (fun t k => XS.iloadN X0.here hx rfl (hb hby d4_18) rfl  k) ?_
  refine own_baload (j := (0 : Int32)) X0 hx hZ e0 VA (by decide) (by decide) (v := (.int t')) (h_0) (hb hby d4_19) ?_
  refine own_st (fr' := (mkF m 23 #[.val (.ref a), oI 0, oI 131, .unset, .unset, .unset, .unset, .unset, .unset, .unset] [(.int 255), (.int t')])) (fun t k => XS.sipush X0.here hx rfl (hb hby d4_20) k) ?_
  refine own_st (fr' := (mkF m 24 #[.val (.ref a), oI 0, oI 131, .unset, .unset, .unset, .unset, .unset, .unset, .unset] [(.int (t' &&& (255 : Int32)))])) (fun t k => XS.iand X0.here hx rfl (hb hby d4_23) rfl k) ?_
  refine own_st (fr' := (mkF m 25 #[.val (.ref a), oI 0, oI 131, .val (.int (t' &&& (255 : Int32))), .unset, .unset, .unset, .unset, .unset, .unset] [])) (fun t k => XS.istoreN X0.here hx rfl (hb hby d4_24) rfl  (l' := #[.val (.ref a), oI 0, oI 131, .val (.int (t' &&& (255 : Int32))), .unset, .unset, .unset, .unset, .unset, .unset]) rfl k) ?_
  refine own_st (fr' := (mkF m 26 #[.val (.ref a), oI 0, oI 131, .val (.int (t' &&& (255 : Int32))), .unset, .unset, .unset, .unset, .unset, .unset] [(.int (t' &&& (255 : Int32)))])) (fun t k => XS.iloadN X0.here hx rfl (hb hby d4_25) rfl  k) ?_
  refine own_st (fr' := (mkF m 28 #[.val (.ref a), oI 0, oI 131, .val (.int (t' &&& (255 : Int32))), .unset, .unset, .unset, .unset, .unset, .unset] [(.int 31), (.int (t' &&& (255 : Int32)))])) (fun t k => XS.bipush X0.here hx rfl (hb hby d4_26) k) ?_
  refine own_st (fr' := (mkF m 29 #[.val (.ref a), oI 0, oI 131, .val (.int (t' &&& (255 : Int32))), .unset, .unset, .unset, .unset, .unset, .unset] [(.int ((t' &&& (255 : Int32)) &&& (31 : Int32)))])) (fun t k => XS.iand X0.here hx rfl (hb hby d4_28) rfl k) ?_
  refine own_st (fr' := (mkF m 31 #[.val (.ref a), oI 0, oI 131, .val (.int (t' &&& (255 : Int32))), .unset, .unset, .unset, .unset, .unset, .unset] [(.int 31), (.int ((t' &&& (255 : Int32)) &&& (31 : Int32)))])) (fun t k => XS.bipush X0.here hx rfl (hb hby d4_29) k) ?_
  refine own_st (fr' := (mkF m 44 #[.val (.ref a), oI 0, oI 131, .val (.int (t' &&& (255 : Int32))), .unset, .unset, .unset, .unset, .unset, .unset] [])) (fun t k => XS.icmpYes X0.here hx rfl (pc0 := 31) (pc' := 44) rfl (hb hby d4_31) rfl (own_feq (x := ((t' &&& (255 : Int32)) &&& (31 : Int32))) (y := (31 : Int32)) (show ¬ ((t' &&& (255 : Int32)) &&& (31 : Int32)).toInt = 31 from htag)).2 (by decide) (by decide) k) ?_
  refine own_st (fr' := (mkF m 45 #[.val (.ref a), oI 0, oI 131, .val (.int (t' &&& (255 : Int32))), .unset, .unset, .unset, .unset, .unset, .unset] [(.ref a)])) (fun t k => XS.aloadN X0.here hx rfl (hb hby d4_44) rfl rfl k) ?_
  refine own_st (fr' := (mkF m 46 #[.val (.ref a), oI 0, oI 131, .val (.int (t' &&& (255 : Int32))), .unset, .unset, .unset, .unset, .unset, .unset] [(.int 0), (.ref a)])) (fun t k => XS.iloadN X0.here hx rfl (hb hby d4_45) rfl  k) ?_
  refine own_st (fr' := (mkF m 47 #[.val (.ref a), oI 0, oI 131, .val (.int (t' &&& (255 : Int32))), .unset, .unset, .unset, .unset, .unset, .unset] [(.int 1), (.int 0), (.ref a)])) (fun t k => XS.iconst X0.here hx rfl (hb hby d4_46) k) ?_
  refine own_st (fr' := (mkF m 48 #[.val (.ref a), oI 0, oI 131, .val (.int (t' &&& (255 : Int32))), .unset, .unset, .unset, .unset, .unset, .unset] [(.int 1), (.ref a)])) (fun t k => XS.iadd X0.here hx rfl (hb hby d4_47) rfl k) ?_
  refine own_baload (j := (1 : Int32)) X0 hx hZ e0 VA (by decide) (by decide) (v := (.int (-127 : Int32))) (h_1) (hb hby d4_48) ?_
  refine own_st (fr' := (mkF m 52 #[.val (.ref a), oI 0, oI 131, .val (.int (t' &&& (255 : Int32))), .unset, .unset, .unset, .unset, .unset, .unset] [(.int 255), (.int (-127 : Int32))])) (fun t k => XS.sipush X0.here hx rfl (hb hby d4_49) k) ?_
  refine own_st (fr' := (mkF m 53 #[.val (.ref a), oI 0, oI 131, .val (.int (t' &&& (255 : Int32))), .unset, .unset, .unset, .unset, .unset, .unset] [(.int 129)])) (fun t k => XS.iand X0.here hx rfl (hb hby d4_52) rfl k) ?_
  refine own_st (fr' := (mkF m 55 #[.val (.ref a), oI 0, oI 131, .val (.int (t' &&& (255 : Int32))), oI 129, .unset, .unset, .unset, .unset, .unset] [])) (fun t k => XS.istore X0.here hx rfl (hb hby d4_53) rfl  (l' := #[.val (.ref a), oI 0, oI 131, .val (.int (t' &&& (255 : Int32))), oI 129, .unset, .unset, .unset, .unset, .unset]) rfl k) ?_
  refine own_st (fr' := (mkF m 56 #[.val (.ref a), oI 0, oI 131, .val (.int (t' &&& (255 : Int32))), oI 129, .unset, .unset, .unset, .unset, .unset] [(.int 0)])) (fun t k => XS.iloadN X0.here hx rfl (hb hby d4_55) rfl  k) ?_
  refine own_st (fr' := (mkF m 57 #[.val (.ref a), oI 0, oI 131, .val (.int (t' &&& (255 : Int32))), oI 129, .unset, .unset, .unset, .unset, .unset] [(.int 2), (.int 0)])) (fun t k => XS.iconst X0.here hx rfl (hb hby d4_56) k) ?_
  refine own_st (fr' := (mkF m 58 #[.val (.ref a), oI 0, oI 131, .val (.int (t' &&& (255 : Int32))), oI 129, .unset, .unset, .unset, .unset, .unset] [(.int 2)])) (fun t k => XS.iadd X0.here hx rfl (hb hby d4_57) rfl k) ?_
  refine own_st (fr' := (mkF m 60 #[.val (.ref a), oI 0, oI 131, .val (.int (t' &&& (255 : Int32))), oI 129, oI 2, .unset, .unset, .unset, .unset] [])) (fun t k => XS.istore X0.here hx rfl (hb hby d4_58) rfl  (l' := #[.val (.ref a), oI 0, oI 131, .val (.int (t' &&& (255 : Int32))), oI 129, oI 2, .unset, .unset, .unset, .unset]) rfl k) ?_
  refine own_st (fr' := (mkF m 62 #[.val (.ref a), oI 0, oI 131, .val (.int (t' &&& (255 : Int32))), oI 129, oI 2, .unset, .unset, .unset, .unset] [(.int 129)])) (fun t k => XS.iload X0.here hx rfl (hb hby d4_60) rfl  k) ?_
  refine own_st (fr' := (mkF m 63 #[.val (.ref a), oI 0, oI 131, .val (.int (t' &&& (255 : Int32))), oI 129, oI 2, .unset, .unset, .unset, .unset] [(.long (129 : Int64))])) (fun t k => XS.i2l X0.here hx rfl (hb hby d4_62) rfl k) ?_
  refine own_st (fr' := (mkF m 65 #[.val (.ref a), oI 0, oI 131, .val (.int (t' &&& (255 : Int32))), oI 129, oI 2, .val (.long (129 : Int64)), .second, .unset, .unset] [])) (fun t k => XS.lstore X0.here hx rfl (hb hby d4_63) rfl  (l' := #[.val (.ref a), oI 0, oI 131, .val (.int (t' &&& (255 : Int32))), oI 129, oI 2, .val (.long (129 : Int64)), .second, .unset, .unset]) rfl k) ?_
  refine own_st (fr' := (mkF m 67 #[.val (.ref a), oI 0, oI 131, .val (.int (t' &&& (255 : Int32))), oI 129, oI 2, .val (.long (129 : Int64)), .second, .unset, .unset] [(.int 129)])) (fun t k => XS.iload X0.here hx rfl (hb hby d4_65) rfl  k) ?_
  refine own_st (fr' := (mkF m 70 #[.val (.ref a), oI 0, oI 131, .val (.int (t' &&& (255 : Int32))), oI 129, oI 2, .val (.long (129 : Int64)), .second, .unset, .unset] [(.int 128), (.int 129)])) (fun t k => XS.sipush X0.here hx rfl (hb hby d4_67) k) ?_
  refine own_st (fr' := (mkF m 73 #[.val (.ref a), oI 0, oI 131, .val (.int (t' &&& (255 : Int32))), oI 129, oI 2, .val (.long (129 : Int64)), .second, .unset, .unset] [])) (fun t k => XS.icmpNo X0.here hx rfl (hb hby d4_70) rfl (own_flt (x := (129 : Int32)) (y := (128 : Int32)) (show ¬ 129 < 128 from by decide)).1 k) ?_
  refine own_st (fr' := (mkF m 75 #[.val (.ref a), oI 0, oI 131, .val (.int (t' &&& (255 : Int32))), oI 129, oI 2, .val (.long (129 : Int64)), .second, .unset, .unset] [(.int 129)])) (fun t k => XS.iload X0.here hx rfl (hb hby d4_73) rfl  k) ?_
  refine own_st (fr' := (mkF m 77 #[.val (.ref a), oI 0, oI 131, .val (.int (t' &&& (255 : Int32))), oI 129, oI 2, .val (.long (129 : Int64)), .second, .unset, .unset] [(.int 127), (.int 129)])) (fun t k => XS.bipush X0.here hx rfl (hb hby d4_75) k) ?_
  refine own_st (fr' := (mkF m 78 #[.val (.ref a), oI 0, oI 131, .val (.int (t' &&& (255 : Int32))), oI 129, oI 2, .val (.long (129 : Int64)), .second, .unset, .unset] [(.int 1)])) (fun t k => XS.iand X0.here hx rfl (hb hby d4_77) rfl k) ?_
  refine own_st (fr' := (mkF m 80 #[.val (.ref a), oI 0, oI 131, .val (.int (t' &&& (255 : Int32))), oI 129, oI 2, .val (.long (129 : Int64)), .second, oI 1, .unset] [])) (fun t k => XS.istore X0.here hx rfl (hb hby d4_78) rfl  (l' := #[.val (.ref a), oI 0, oI 131, .val (.int (t' &&& (255 : Int32))), oI 129, oI 2, .val (.long (129 : Int64)), .second, oI 1, .unset]) rfl k) ?_
  refine own_st (fr' := (mkF m 82 #[.val (.ref a), oI 0, oI 131, .val (.int (t' &&& (255 : Int32))), oI 129, oI 2, .val (.long (129 : Int64)), .second, oI 1, .unset] [(.int 1)])) (fun t k => XS.iload X0.here hx rfl (hb hby d4_80) rfl  k) ?_
  refine own_st (fr' := (mkF m 85 #[.val (.ref a), oI 0, oI 131, .val (.int (t' &&& (255 : Int32))), oI 129, oI 2, .val (.long (129 : Int64)), .second, oI 1, .unset] [])) (fun t k => XS.ifNo X0.here hx rfl (hb hby d4_82) rfl ((if0 _ _).trans (own_feq (x := (1 : Int32)) (y := (0 : Int32)) (show ¬ 1 = 0 from by decide)).1) k) ?_
  refine own_st (fr' := (mkF m 87 #[.val (.ref a), oI 0, oI 131, .val (.int (t' &&& (255 : Int32))), oI 129, oI 2, .val (.long (129 : Int64)), .second, oI 1, .unset] [(.int 1)])) (fun t k => XS.iload X0.here hx rfl (hb hby d4_85) rfl  k) ?_
  refine own_st (fr' := (mkF m 88 #[.val (.ref a), oI 0, oI 131, .val (.int (t' &&& (255 : Int32))), oI 129, oI 2, .val (.long (129 : Int64)), .second, oI 1, .unset] [(.int 4), (.int 1)])) (fun t k => XS.iconst X0.here hx rfl (hb hby d4_87) k) ?_
  refine own_st (fr' := (mkF m 91 #[.val (.ref a), oI 0, oI 131, .val (.int (t' &&& (255 : Int32))), oI 129, oI 2, .val (.long (129 : Int64)), .second, oI 1, .unset] [])) (fun t k => XS.icmpNo X0.here hx rfl (hb hby d4_88) rfl (own_flt (x := (4 : Int32)) (y := (1 : Int32)) (show ¬ 4 < 1 from by decide)).2.2.1 k) ?_
  refine own_st (fr' := (mkF m 93 #[.val (.ref a), oI 0, oI 131, .val (.int (t' &&& (255 : Int32))), oI 129, oI 2, .val (.long (129 : Int64)), .second, oI 1, .unset] [(.int 1)])) (fun t k => XS.iload X0.here hx rfl (hb hby d4_91) rfl  k) ?_
  refine own_st (fr' := (mkF m 94 #[.val (.ref a), oI 0, oI 131, .val (.int (t' &&& (255 : Int32))), oI 129, oI 2, .val (.long (129 : Int64)), .second, oI 1, .unset] [(.int 131), (.int 1)])) (fun t k => XS.iloadN X0.here hx rfl (hb hby d4_93) rfl  k) ?_
  refine own_st (fr' := (mkF m 96 #[.val (.ref a), oI 0, oI 131, .val (.int (t' &&& (255 : Int32))), oI 129, oI 2, .val (.long (129 : Int64)), .second, oI 1, .unset] [(.int 2), (.int 131), (.int 1)])) (fun t k => XS.iload X0.here hx rfl (hb hby d4_94) rfl  k) ?_
  refine own_st (fr' := (mkF m 97 #[.val (.ref a), oI 0, oI 131, .val (.int (t' &&& (255 : Int32))), oI 129, oI 2, .val (.long (129 : Int64)), .second, oI 1, .unset] [(.int 129), (.int 1)])) (fun t k => XS.isub X0.here hx rfl (hb hby d4_96) rfl k) ?_
  refine own_st (fr' := (mkF m 110 #[.val (.ref a), oI 0, oI 131, .val (.int (t' &&& (255 : Int32))), oI 129, oI 2, .val (.long (129 : Int64)), .second, oI 1, .unset] [])) (fun t k => XS.icmpYes X0.here hx rfl (pc0 := 97) (pc' := 110) rfl (hb hby d4_97) rfl (own_flt (x := (129 : Int32)) (y := (1 : Int32)) (show ¬ 129 < 1 from by decide)).2.2.2 (by decide) (by decide) k) ?_
  refine own_st (fr' := (mkF m 111 #[.val (.ref a), oI 0, oI 131, .val (.int (t' &&& (255 : Int32))), oI 129, oI 2, .val (.long (129 : Int64)), .second, oI 1, .unset] [(.long (0 : Int64))])) (fun t k => XS.lconst X0.here hx rfl (hb hby d4_110) k) ?_
  refine own_st (fr' := (mkF m 113 #[.val (.ref a), oI 0, oI 131, .val (.int (t' &&& (255 : Int32))), oI 129, oI 2, .val (.long (0 : Int64)), .second, oI 1, .unset] [])) (fun t k => XS.lstore X0.here hx rfl (hb hby d4_111) rfl  (l' := #[.val (.ref a), oI 0, oI 131, .val (.int (t' &&& (255 : Int32))), oI 129, oI 2, .val (.long (0 : Int64)), .second, oI 1, .unset]) rfl k) ?_
  refine own_st (fr' := (mkF m 114 #[.val (.ref a), oI 0, oI 131, .val (.int (t' &&& (255 : Int32))), oI 129, oI 2, .val (.long (0 : Int64)), .second, oI 1, .unset] [(.int 0)])) (fun t k => XS.iconst X0.here hx rfl (hb hby d4_113) k) ?_
  refine own_st (fr' := (mkF m 116 #[.val (.ref a), oI 0, oI 131, .val (.int (t' &&& (255 : Int32))), oI 129, oI 2, .val (.long (0 : Int64)), .second, oI 1, oI 0] [])) (fun t k => XS.istore X0.here hx rfl (hb hby d4_114) rfl  (l' := #[.val (.ref a), oI 0, oI 131, .val (.int (t' &&& (255 : Int32))), oI 129, oI 2, .val (.long (0 : Int64)), .second, oI 1, oI 0]) rfl k) ?_
  refine own_st (fr' := (mkF m 118 #[.val (.ref a), oI 0, oI 131, .val (.int (t' &&& (255 : Int32))), oI 129, oI 2, .val (.long (0 : Int64)), .second, oI 1, oI 0] [(.int 0)])) (fun t k => XS.iload X0.here hx rfl (hb hby d4_116) rfl  k) ?_
  refine own_st (fr' := (mkF m 120 #[.val (.ref a), oI 0, oI 131, .val (.int (t' &&& (255 : Int32))), oI 129, oI 2, .val (.long (0 : Int64)), .second, oI 1, oI 0] [(.int 1), (.int 0)])) (fun t k => XS.iload X0.here hx rfl (hb hby d4_118) rfl  k) ?_
  refine own_st (fr' := (mkF m 123 #[.val (.ref a), oI 0, oI 131, .val (.int (t' &&& (255 : Int32))), oI 129, oI 2, .val (.long (0 : Int64)), .second, oI 1, oI 0] [])) (fun t k => XS.icmpNo X0.here hx rfl (hb hby d4_120) rfl (own_tlt (x := (0 : Int32)) (y := (1 : Int32)) (show 0 < 1 from by decide)).2.1 k) ?_
  refine own_st (fr' := (mkF m 125 #[.val (.ref a), oI 0, oI 131, .val (.int (t' &&& (255 : Int32))), oI 129, oI 2, .val (.long (0 : Int64)), .second, oI 1, oI 0] [(.long (0 : Int64))])) (fun t k => XS.lload X0.here hx rfl (hb hby d4_123) rfl  k) ?_
  refine own_st (fr' := (mkF m 127 #[.val (.ref a), oI 0, oI 131, .val (.int (t' &&& (255 : Int32))), oI 129, oI 2, .val (.long (0 : Int64)), .second, oI 1, oI 0] [(.int 8), (.long (0 : Int64))])) (fun t k => XS.bipush X0.here hx rfl (hb hby d4_125) k) ?_
  refine own_st (fr' := (mkF m 128 #[.val (.ref a), oI 0, oI 131, .val (.int (t' &&& (255 : Int32))), oI 129, oI 2, .val (.long (0 : Int64)), .second, oI 1, oI 0] [(.long (0 : Int64))])) (fun t k => XS.lshl X0.here hx rfl (hb hby d4_127) rfl k) ?_
  refine own_st (fr' := (mkF m 129 #[.val (.ref a), oI 0, oI 131, .val (.int (t' &&& (255 : Int32))), oI 129, oI 2, .val (.long (0 : Int64)), .second, oI 1, oI 0] [(.ref a), (.long (0 : Int64))])) (fun t k => XS.aloadN X0.here hx rfl (hb hby d4_128) rfl rfl k) ?_
  refine own_st (fr' := (mkF m 131 #[.val (.ref a), oI 0, oI 131, .val (.int (t' &&& (255 : Int32))), oI 129, oI 2, .val (.long (0 : Int64)), .second, oI 1, oI 0] [(.int 2), (.ref a), (.long (0 : Int64))])) (fun t k => XS.iload X0.here hx rfl (hb hby d4_129) rfl  k) ?_
  refine own_st (fr' := (mkF m 133 #[.val (.ref a), oI 0, oI 131, .val (.int (t' &&& (255 : Int32))), oI 129, oI 2, .val (.long (0 : Int64)), .second, oI 1, oI 0] [(.int 0), (.int 2), (.ref a), (.long (0 : Int64))])) (fun t k => XS.iload X0.here hx rfl (hb hby d4_131) rfl  k) ?_
  refine own_st (fr' := (mkF m 134 #[.val (.ref a), oI 0, oI 131, .val (.int (t' &&& (255 : Int32))), oI 129, oI 2, .val (.long (0 : Int64)), .second, oI 1, oI 0] [(.int 2), (.ref a), (.long (0 : Int64))])) (fun t k => XS.iadd X0.here hx rfl (hb hby d4_133) rfl k) ?_
  refine own_baload (j := (2 : Int32)) X0 hx hZ e0 VA (by decide) (by decide) (v := (.int (-128 : Int32))) (h_2) (hb hby d4_134) ?_
  refine own_st (fr' := (mkF m 138 #[.val (.ref a), oI 0, oI 131, .val (.int (t' &&& (255 : Int32))), oI 129, oI 2, .val (.long (0 : Int64)), .second, oI 1, oI 0] [(.int 255), (.int (-128 : Int32)), (.long (0 : Int64))])) (fun t k => XS.sipush X0.here hx rfl (hb hby d4_135) k) ?_
  refine own_st (fr' := (mkF m 139 #[.val (.ref a), oI 0, oI 131, .val (.int (t' &&& (255 : Int32))), oI 129, oI 2, .val (.long (0 : Int64)), .second, oI 1, oI 0] [(.int 128), (.long (0 : Int64))])) (fun t k => XS.iand X0.here hx rfl (hb hby d4_138) rfl k) ?_
  refine own_st (fr' := (mkF m 140 #[.val (.ref a), oI 0, oI 131, .val (.int (t' &&& (255 : Int32))), oI 129, oI 2, .val (.long (0 : Int64)), .second, oI 1, oI 0] [(.long (128 : Int64)), (.long (0 : Int64))])) (fun t k => XS.i2l X0.here hx rfl (hb hby d4_139) rfl k) ?_
  refine own_st (fr' := (mkF m 141 #[.val (.ref a), oI 0, oI 131, .val (.int (t' &&& (255 : Int32))), oI 129, oI 2, .val (.long (0 : Int64)), .second, oI 1, oI 0] [(.long (128 : Int64))])) (fun t k => XS.lor X0.here hx rfl (hb hby d4_140) rfl k) ?_
  refine own_st (fr' := (mkF m 143 #[.val (.ref a), oI 0, oI 131, .val (.int (t' &&& (255 : Int32))), oI 129, oI 2, .val (.long (128 : Int64)), .second, oI 1, oI 0] [])) (fun t k => XS.lstore X0.here hx rfl (hb hby d4_141) rfl  (l' := #[.val (.ref a), oI 0, oI 131, .val (.int (t' &&& (255 : Int32))), oI 129, oI 2, .val (.long (128 : Int64)), .second, oI 1, oI 0]) rfl k) ?_
  refine own_st (fr' := (mkF m 146 #[.val (.ref a), oI 0, oI 131, .val (.int (t' &&& (255 : Int32))), oI 129, oI 2, .val (.long (128 : Int64)), .second, oI 1, oI 1] [])) (fun t k => XS.iinc X0.here hx rfl (hb hby d4_143) rfl (l' := #[.val (.ref a), oI 0, oI 131, .val (.int (t' &&& (255 : Int32))), oI 129, oI 2, .val (.long (128 : Int64)), .second, oI 1, oI 1]) rfl k) ?_
  refine own_st (fr' := (mkF m 116 #[.val (.ref a), oI 0, oI 131, .val (.int (t' &&& (255 : Int32))), oI 129, oI 2, .val (.long (128 : Int64)), .second, oI 1, oI 1] [])) (fun t k => XS.goto X0.here hx rfl (pc0 := 146) (pc' := 116) rfl (hb hby d4_146) (by decide) (by decide) k) ?_
  refine own_st (fr' := (mkF m 118 #[.val (.ref a), oI 0, oI 131, .val (.int (t' &&& (255 : Int32))), oI 129, oI 2, .val (.long (128 : Int64)), .second, oI 1, oI 1] [(.int 1)])) (fun t k => XS.iload X0.here hx rfl (hb hby d4_116) rfl  k) ?_
  refine own_st (fr' := (mkF m 120 #[.val (.ref a), oI 0, oI 131, .val (.int (t' &&& (255 : Int32))), oI 129, oI 2, .val (.long (128 : Int64)), .second, oI 1, oI 1] [(.int 1), (.int 1)])) (fun t k => XS.iload X0.here hx rfl (hb hby d4_118) rfl  k) ?_
  refine own_st (fr' := (mkF m 149 #[.val (.ref a), oI 0, oI 131, .val (.int (t' &&& (255 : Int32))), oI 129, oI 2, .val (.long (128 : Int64)), .second, oI 1, oI 1] [])) (fun t k => XS.icmpYes X0.here hx rfl (pc0 := 120) (pc' := 149) rfl (hb hby d4_120) rfl (own_flt (x := (1 : Int32)) (y := (1 : Int32)) (show ¬ 1 < 1 from by decide)).2.1 (by decide) (by decide) k) ?_
  refine own_st (fr' := (mkF m 151 #[.val (.ref a), oI 0, oI 131, .val (.int (t' &&& (255 : Int32))), oI 129, oI 2, .val (.long (128 : Int64)), .second, oI 1, oI 1] [(.int 2)])) (fun t k => XS.iload X0.here hx rfl (hb hby d4_149) rfl  k) ?_
  refine own_st (fr' := (mkF m 153 #[.val (.ref a), oI 0, oI 131, .val (.int (t' &&& (255 : Int32))), oI 129, oI 2, .val (.long (128 : Int64)), .second, oI 1, oI 1] [(.int 1), (.int 2)])) (fun t k => XS.iload X0.here hx rfl (hb hby d4_151) rfl  k) ?_
  refine own_st (fr' := (mkF m 154 #[.val (.ref a), oI 0, oI 131, .val (.int (t' &&& (255 : Int32))), oI 129, oI 2, .val (.long (128 : Int64)), .second, oI 1, oI 1] [(.int 3)])) (fun t k => XS.iadd X0.here hx rfl (hb hby d4_153) rfl k) ?_
  refine own_st (fr' := (mkF m 156 #[.val (.ref a), oI 0, oI 131, .val (.int (t' &&& (255 : Int32))), oI 129, oI 3, .val (.long (128 : Int64)), .second, oI 1, oI 1] [])) (fun t k => XS.istore X0.here hx rfl (hb hby d4_154) rfl  (l' := #[.val (.ref a), oI 0, oI 131, .val (.int (t' &&& (255 : Int32))), oI 129, oI 3, .val (.long (128 : Int64)), .second, oI 1, oI 1]) rfl k) ?_
  refine own_st (fr' := (mkF m 158 #[.val (.ref a), oI 0, oI 131, .val (.int (t' &&& (255 : Int32))), oI 129, oI 3, .val (.long (128 : Int64)), .second, oI 1, oI 1] [(.long (128 : Int64))])) (fun t k => XS.lload X0.here hx rfl (hb hby d4_156) rfl  k) ?_
  refine own_st (fr' := (mkF m 159 #[.val (.ref a), oI 0, oI 131, .val (.int (t' &&& (255 : Int32))), oI 129, oI 3, .val (.long (128 : Int64)), .second, oI 1, oI 1] [(.int 131), (.long (128 : Int64))])) (fun t k => XS.iloadN X0.here hx rfl (hb hby d4_158) rfl  k) ?_
  refine own_st (fr' := (mkF m 161 #[.val (.ref a), oI 0, oI 131, .val (.int (t' &&& (255 : Int32))), oI 129, oI 3, .val (.long (128 : Int64)), .second, oI 1, oI 1] [(.int 3), (.int 131), (.long (128 : Int64))])) (fun t k => XS.iload X0.here hx rfl (hb hby d4_159) rfl  k) ?_
  refine own_st (fr' := (mkF m 162 #[.val (.ref a), oI 0, oI 131, .val (.int (t' &&& (255 : Int32))), oI 129, oI 3, .val (.long (128 : Int64)), .second, oI 1, oI 1] [(.int 128), (.long (128 : Int64))])) (fun t k => XS.isub X0.here hx rfl (hb hby d4_161) rfl k) ?_
  refine own_st (fr' := (mkF m 163 #[.val (.ref a), oI 0, oI 131, .val (.int (t' &&& (255 : Int32))), oI 129, oI 3, .val (.long (128 : Int64)), .second, oI 1, oI 1] [(.long (128 : Int64)), (.long (128 : Int64))])) (fun t k => XS.i2l X0.here hx rfl (hb hby d4_162) rfl k) ?_
  refine own_st (fr' := (mkF m 164 #[.val (.ref a), oI 0, oI 131, .val (.int (t' &&& (255 : Int32))), oI 129, oI 3, .val (.long (128 : Int64)), .second, oI 1, oI 1] [(.int (lcmpW (128 : Int64) (128 : Int64)))])) (fun t k => XS.lcmp X0.here hx rfl (hb hby d4_163) rfl k) ?_
  refine own_st (fr' := (mkF m 177 #[.val (.ref a), oI 0, oI 131, .val (.int (t' &&& (255 : Int32))), oI 129, oI 3, .val (.long (128 : Int64)), .second, oI 1, oI 1] [])) (fun t k => XS.ifYes X0.here hx rfl (pc0 := 164) (pc' := 177) rfl (hb hby d4_164) rfl (own_fgtL (x := (128 : Int64)) (y := (128 : Int64)) (show ¬ 128 < 128 from by decide)).2 (by decide) (by decide) k) ?_
  obtain ⟨T69, h69, X69, e69, E69, A69, D69, -, st69⟩ := newO X0 hx hZ hown (hw _ (List.mem_of_getElem? (i := 15) rfl)) (hw _ (List.mem_of_getElem? (i := 16) rfl)) (hw _ (List.mem_of_getElem? (i := 10) rfl)) e0 (g := (mkF m 177 #[.val (.ref a), oI 0, oI 131, .val (.int (t' &&& (255 : Int32))), oI 129, oI 3, .val (.long (128 : Int64)), .second, oI 1, oI 1] [])) rfl (hb hby d4_177) (by decide) (by decide)
  obtain ⟨b69, g69⟩ : ∃ z, z = h0.size := ⟨_, rfl⟩
  rw [← g69] at A69 D69 st69
  have lt69_a : a < b69 := Nat.lt_of_lt_of_eq VA.lt g69.symm
  have ne69_a : a ≠ b69 := Nat.ne_of_lt lt69_a
  have ge_b69 : n0 ≤ b69 := Nat.le_trans Z0 (Nat.le_of_eq g69.symm)
  have sz_b69 : h0.size ≤ b69 := Nat.le_trans (Nat.le_refl _) (Nat.le_of_eq g69.symm)
  have F69_bytes : Fld Z h69 b69 "com/example/linkvouch/linkvouch/apk/Der" "bytes" "[B" .null := D69 (Or.inr (hw _ (List.mem_of_getElem? (i := 24) rfl))) (ty := (.array .byte)) (by decide)
  have F69_tag : Fld Z h69 b69 "com/example/linkvouch/linkvouch/apk/Der" "tag" "I" (.int 0) := D69 (Or.inr (hw _ (List.mem_of_getElem? (i := 26) rfl))) (ty := .int) (by decide)
  have F69_start : Fld Z h69 b69 "com/example/linkvouch/linkvouch/apk/Der" "start" "I" (.int 0) := D69 (Or.inr (hw _ (List.mem_of_getElem? (i := 28) rfl))) (ty := .int) (by decide)
  have F69_contentStart : Fld Z h69 b69 "com/example/linkvouch/linkvouch/apk/Der" "contentStart" "I" (.int 0) := D69 (Or.inr (hw _ (List.mem_of_getElem? (i := 30) rfl))) (ty := .int) (by decide)
  have F69_end : Fld Z h69 b69 "com/example/linkvouch/linkvouch/apk/Der" "end" "I" (.int 0) := D69 (Or.inr (hw _ (List.mem_of_getElem? (i := 32) rfl))) (ty := .int) (by decide)
  refine own_st (fr' := (mkF m 180 #[.val (.ref a), oI 0, oI 131, .val (.int (t' &&& (255 : Int32))), oI 129, oI 3, .val (.long (128 : Int64)), .second, oI 1, oI 1] [(.ref b69)])) st69 ?_
  refine own_st (fr' := (mkF m 181 #[.val (.ref a), oI 0, oI 131, .val (.int (t' &&& (255 : Int32))), oI 129, oI 3, .val (.long (128 : Int64)), .second, oI 1, oI 1] [(.ref b69), (.ref b69)])) (fun t k => XS.dup X69.here hx rfl (hb hby d4_180) rfl rfl k) ?_
  refine own_st (fr' := (mkF m 182 #[.val (.ref a), oI 0, oI 131, .val (.int (t' &&& (255 : Int32))), oI 129, oI 3, .val (.long (128 : Int64)), .second, oI 1, oI 1] [(.ref a), (.ref b69), (.ref b69)])) (fun t k => XS.aloadN X69.here hx rfl (hb hby d4_181) rfl rfl k) ?_
  refine own_st (fr' := (mkF m 183 #[.val (.ref a), oI 0, oI 131, .val (.int (t' &&& (255 : Int32))), oI 129, oI 3, .val (.long (128 : Int64)), .second, oI 1, oI 1] [(.int (t' &&& (255 : Int32))), (.ref a), (.ref b69), (.ref b69)])) (fun t k => XS.iloadN X69.here hx rfl (hb hby d4_182) rfl  k) ?_
  refine own_st (fr' := (mkF m 184 #[.val (.ref a), oI 0, oI 131, .val (.int (t' &&& (255 : Int32))), oI 129, oI 3, .val (.long (128 : Int64)), .second, oI 1, oI 1] [(.int 0), (.int (t' &&& (255 : Int32))), (.ref a), (.ref b69), (.ref b69)])) (fun t k => XS.iloadN X69.here hx rfl (hb hby d4_183) rfl  k) ?_
  refine own_st (fr' := (mkF m 186 #[.val (.ref a), oI 0, oI 131, .val (.int (t' &&& (255 : Int32))), oI 129, oI 3, .val (.long (128 : Int64)), .second, oI 1, oI 1] [(.int 3), (.int 0), (.int (t' &&& (255 : Int32))), (.ref a), (.ref b69), (.ref b69)])) (fun t k => XS.iload X69.here hx rfl (hb hby d4_184) rfl  k) ?_
  refine own_st (fr' := (mkF m 188 #[.val (.ref a), oI 0, oI 131, .val (.int (t' &&& (255 : Int32))), oI 129, oI 3, .val (.long (128 : Int64)), .second, oI 1, oI 1] [(.int 3), (.int 3), (.int 0), (.int (t' &&& (255 : Int32))), (.ref a), (.ref b69), (.ref b69)])) (fun t k => XS.iload X69.here hx rfl (hb hby d4_186) rfl  k) ?_
  refine own_st (fr' := (mkF m 190 #[.val (.ref a), oI 0, oI 131, .val (.int (t' &&& (255 : Int32))), oI 129, oI 3, .val (.long (128 : Int64)), .second, oI 1, oI 1] [(.long (128 : Int64)), (.int 3), (.int 3), (.int 0), (.int (t' &&& (255 : Int32))), (.ref a), (.ref b69), (.ref b69)])) (fun t k => XS.lload X69.here hx rfl (hb hby d4_188) rfl  k) ?_
  refine own_st (fr' := (mkF m 191 #[.val (.ref a), oI 0, oI 131, .val (.int (t' &&& (255 : Int32))), oI 129, oI 3, .val (.long (128 : Int64)), .second, oI 1, oI 1] [(.int 128), (.int 3), (.int 3), (.int 0), (.int (t' &&& (255 : Int32))), (.ref a), (.ref b69), (.ref b69)])) (fun t k => XS.l2i X69.here hx rfl (hb hby d4_190) rfl k) ?_
  refine own_st (fr' := (mkF m 192 #[.val (.ref a), oI 0, oI 131, .val (.int (t' &&& (255 : Int32))), oI 129, oI 3, .val (.long (128 : Int64)), .second, oI 1, oI 1] [(.int 131), (.int 3), (.int 0), (.int (t' &&& (255 : Int32))), (.ref a), (.ref b69), (.ref b69)])) (fun t k => XS.iadd X69.here hx rfl (hb hby d4_191) rfl k) ?_
  refine own_callN X69 hx hZ (y := (⟨"com/example/linkvouch/linkvouch/apk/Der", "<init>", "([BIIII)V"⟩ : MethodName)) hown rfl (hw _ (List.mem_of_getElem? (i := 17) rfl)) (hw _ (List.mem_of_getElem? (i := 18) rfl)) (hw _ (List.mem_of_getElem? (i := 10) rfl)) (hw _ (List.mem_of_getElem? (i := 19) rfl)) (by decide) (a := b69) (argsL := [(.ref a), (.int (t' &&& (255 : Int32))), (.int 0), (.int 3), (.int 131)]) (rest := [(.ref b69)]) (W := 1) (rm_dinit l Z a0 hw [] b69 a (t' &&& (255 : Int32)) (0 : Int32) (3 : Int32) (131 : Int32) h69 n0 (Nat.le_trans Z0 E69.1) F69_bytes F69_tag F69_start F69_contentStart F69_end A69 ge_b69) e69 (by rw [hml]; rfl) (lenOf pd_3 rfl) rfl (Nat.le_of_eq rfl) (hb hby d4_192) (by decide) (by decide) (by decide) (by decide) ?_
  intro v70 T70 L70 X70 hQ70
  obtain ⟨rfl, Nq70, K70, Fc70_0, Fc70_1, Fc70_2, Fc70_3, Fc70_4⟩ := hQ70
  have N70 := Fr.app N0 Nq70
  exact own_retA X70 hx hlk hret rfl rfl (hb hby d4_195) (by decide) (by decide) (⟨⟨b69, rfl, sz_b69, (A69.keep K70), Fc70_0, Fc70_1, Fc70_2, Fc70_3, Fc70_4⟩, N70, (Keep.trans (Keep.ext (Keep.refl h0 []) E69) K70 (allS (Or.inr sz_b69) all0))⟩)
theorem ef_parse4 (m : MethodId) (a : Addr) : entryFrame m #[(.ref a)] 2 = mkF m 0 #[.val (.ref a), .unset] [] := by first | (simp [entryFrame, mkF, argsToLocals, Value.category, maxLocals]; done) | rfl
def Q_parse4 (Z : State) (a : Addr) (t' : Int32) (f : Nat → Value) (h0 : Heap) (n0 : Nat) : Option Value → Heap → List Loc → Prop := fun v h L => (∃ d : Addr, v = some (.ref d) ∧ h0.size ≤ d ∧ Exa Z h d "com/example/linkvouch/linkvouch/apk/Der" ∧ Fld Z h d "com/example/linkvouch/linkvouch/apk/Der" "bytes" "[B" (.ref a) ∧ Fld Z h d "com/example/linkvouch/linkvouch/apk/Der" "tag" "I" (.int (t' &&& 255)) ∧ Fld Z h d "com/example/linkvouch/linkvouch/apk/Der" "start" "I" (.int 0) ∧ Fld Z h d "com/example/linkvouch/linkvouch/apk/Der" "contentStart" "I" (.int 3) ∧ Fld Z h d "com/example/linkvouch/linkvouch/apk/Der" "end" "I" (.int 131)) ∧ Fr n0 L ∧ Keep h0 h []
set_option maxRecDepth 65536 in
set_option maxHeartbeats 40000000 in
theorem rm_parse4 (l : Launch) (Z : State) (a0 : Array Value) (hw : ∀ d ∈ tables_1, d.before a0 Z = true) (ws : List Jvm.Cond) (a : Addr) (t' : Int32) (f : Nat → Value) (h0 : Heap) (n0 : Nat) (Z0 : n0 ≤ h0.size) (VA : own_A Z h0 a .byte 131 f) (h_0 : f 0 = .int t') (h_1 : f 1 = .int (-127)) (h_2 : f 2 = .int (-128)) (htag : ¬ ((t' &&& 255) &&& 31).toInt = 31) :
    MetFree l (⟨"com/example/linkvouch/linkvouch/apk/Der", "parse", "([B)Lcom/example/linkvouch/linkvouch/apk/Der;"⟩ : MethodName) (head1 (Jvm.Cond.code (⟨"com/example/linkvouch/linkvouch/apk/Der", "parse", "([B)Lcom/example/linkvouch/linkvouch/apk/Der;"⟩ : MethodName) prog_30_method_2_code 2 (some (.object "com/example/linkvouch/linkvouch/apk/Der")) :: ws) ({ frames := 3, cells := 1, slots := 5, locals := 70 } : Room)) (fun aX U => aX = #[(.ref a)] ∧ Z.Warmed39 U.vm ∧ U.heap = h0) (fun _ _ _ _ _ => True) (fun _ U o U' => ∃ v L, o = .returned v ∧ (Q_parse4 Z a t' f h0 n0) v U'.heap L ∧ FrameEnd U o U' L ({ frames := 3, cells := 1, slots := 5, locals := 70 } : Room).cells ({ frames := 3, cells := 1, slots := 5, locals := 70 } : Room).slots) := by
  refine own_met (Q := (Q_parse4 Z a t' f h0 n0)) (plainFor_of_name (x := (⟨"com/example/linkvouch/linkvouch/apk/Der", "parse", "([B)Lcom/example/linkvouch/linkvouch/apk/Der;"⟩ : MethodName)) pn_1) (fun m => ef_parse4 m a) ?_
  intro p e s m below meth cD s₁ hx hby hml hret hlk hZ hown hnm X0 e0 hs0
  have hown : s.vm.findClass "com/example/linkvouch/linkvouch/apk/Der" = some m.cls := hown
  have N0 := Fr.nil n0
  refine own_st (fr' := (mkF m 1 #[.val (.ref a), .unset] [(.ref a)])) (fun t k => XS.aloadN X0.here hx rfl (hb hby d3_0) rfl rfl k) ?_
  refine own_st (fr' := (mkF m 2 #[.val (.ref a), .unset] [(.int 0), (.ref a)])) (fun t k => XS.iconst X0.here hx rfl (hb hby d3_1) k) ?_
  refine own_st (fr' := (mkF m 3 #[.val (.ref a), .unset] [(.ref a), (.int 0), (.ref a)])) (fun t k => XS.aloadN X0.here hx rfl (hb hby d3_2) rfl rfl k) ?_
  refine own_alen X0 hx hZ e0 VA (hb hby d3_3) ?_
  refine own_callS X0 hx hZ (y := (⟨"com/example/linkvouch/linkvouch/apk/Der", "read", "([BII)Lcom/example/linkvouch/linkvouch/apk/Der;"⟩ : MethodName)) hown (hw _ (List.mem_of_getElem? (i := 12) rfl)) (hw _ (List.mem_of_getElem? (i := 13) rfl)) (hw _ (List.mem_of_getElem? (i := 10) rfl)) (hw _ (List.mem_of_getElem? (i := 14) rfl)) (by decide) (argsL := [(.ref a), (.int 0), (.int 131)]) (rest := []) (W := 0) (rm_read4 l Z a0 hw [] a t' f h0 n0 Z0 VA h_0 h_1 h_2 htag) e0 (by rw [hml]; rfl) (lenOf pd_4 rfl) rfl (Nat.le_of_eq rfl) (hb hby d3_4) (by decide) (by decide) (by decide) (by decide) ?_
  intro v71 T71 L71 X71 hQ71
  obtain ⟨⟨d, rfl, hd0, Ed, Fd0, Fd1, Fd2, Fd3, Fd4⟩, Nq71, K71⟩ := hQ71
  have N71 := Fr.app N0 Nq71
  refine own_st (fr' := (mkF m 8 #[.val (.ref a), .val (.ref d)] [])) (fun t k => XS.astoreN X71.here hx rfl (hb hby d3_7) rfl rfl (l' := #[.val (.ref a), .val (.ref d)]) rfl k) ?_
  refine own_st (fr' := (mkF m 9 #[.val (.ref a), .val (.ref d)] [(.ref d)])) (fun t k => XS.aloadN X71.here hx rfl (hb hby d3_8) rfl rfl k) ?_
  obtain ⟨T72, X72, e72, st72⟩ := getF X71 hx hZ hown (host := "") (Or.inl (hw _ (List.mem_of_getElem? (i := 31) rfl))) Via.refl rfl Fd4 (g := (mkF m 9 #[.val (.ref a), .val (.ref d)] [(.ref d)])) rfl rfl (hb hby d3_9)
  refine own_st (fr' := (mkF m 12 #[.val (.ref a), .val (.ref d)] [(.int 131)])) st72 ?_
  refine own_st (fr' := (mkF m 13 #[.val (.ref a), .val (.ref d)] [(.ref a), (.int 131)])) (fun t k => XS.aloadN X72.here hx rfl (hb hby d3_12) rfl rfl k) ?_
  refine own_alen X72 hx hZ e72 (VA.keep K71 nin0) (hb hby d3_13) ?_
  refine own_st (fr' := (mkF m 27 #[.val (.ref a), .val (.ref d)] [])) (fun t k => XS.icmpYes X72.here hx rfl (pc0 := 14) (pc' := 27) rfl (hb hby d3_14) rfl (own_teq (x := (131 : Int32)) (y := (131 : Int32)) (show 131 = 131 from by decide)).1 (by decide) (by decide) k) ?_
  refine own_st (fr' := (mkF m 28 #[.val (.ref a), .val (.ref d)] [(.ref d)])) (fun t k => XS.aloadN X72.here hx rfl (hb hby d3_27) rfl rfl k) ?_
  exact own_retA X72 hx hlk hret rfl rfl (hb hby d3_28) (by decide) (by decide) (by rw [e72]; exact ⟨⟨d, rfl, hd0, Ed, Fd0, Fd1, Fd2, Fd3, Fd4⟩, N71, (Keep.trans (Keep.refl h0 []) K71 all0)⟩)
theorem ef_cont4 (m : MethodId) (d : Addr) : entryFrame m #[(.ref d)] 1 = mkF m 0 #[.val (.ref d)] [] := by first | (simp [entryFrame, mkF, argsToLocals, Value.category, maxLocals]; done) | rfl
def Q_cont4 (Z : State) (d : Addr) (a : Addr) (f : Nat → Value) (h0 : Heap) (n0 : Nat) : Option Value → Heap → List Loc → Prop := fun v h L => (∃ (r : Addr) (g : Nat → Value), v = some (.ref r) ∧ h0.size ≤ r ∧ own_A Z h r .byte 128 g ∧ ∀ i : Nat, i < 128 → g i = f (3 + i)) ∧ Fr n0 L ∧ Keep h0 h []
set_option maxRecDepth 65536 in
set_option maxHeartbeats 40000000 in
theorem rm_cont4 (l : Launch) (Z : State) (a0 : Array Value) (hw : ∀ d ∈ tables_1, d.before a0 Z = true) (ws : List Jvm.Cond) (d : Addr) (a : Addr) (f : Nat → Value) (h0 : Heap) (n0 : Nat) (Z0 : n0 ≤ h0.size) (F_bytes : Fld Z h0 d "com/example/linkvouch/linkvouch/apk/Der" "bytes" "[B" (.ref a)) (VA : own_A Z h0 a .byte 131 f) (EA : Exa Z h0 a "[B") (F_end : Fld Z h0 d "com/example/linkvouch/linkvouch/apk/Der" "end" "I" (.int 131)) (F_contentStart : Fld Z h0 d "com/example/linkvouch/linkvouch/apk/Der" "contentStart" "I" (.int 3)) :
    MetFree l (⟨"com/example/linkvouch/linkvouch/apk/Der", "content", "()[B"⟩ : MethodName) (head1 (Jvm.Cond.code (⟨"com/example/linkvouch/linkvouch/apk/Der", "content", "()[B"⟩ : MethodName) prog_30_method_9_code 1 (some (.array .byte)) :: ws) ({ frames := 3, cells := 1, slots := 304, locals := 110 } : Room)) (fun aX U => aX = #[(.ref d)] ∧ Z.Warmed39 U.vm ∧ U.heap = h0) (fun _ _ _ _ _ => True) (fun _ U o U' => ∃ v L, o = .returned v ∧ (Q_cont4 Z d a f h0 n0) v U'.heap L ∧ FrameEnd U o U' L ({ frames := 3, cells := 1, slots := 304, locals := 110 } : Room).cells ({ frames := 3, cells := 1, slots := 304, locals := 110 } : Room).slots) := by
  refine own_met (Q := (Q_cont4 Z d a f h0 n0)) (plainFor_of_name (x := (⟨"com/example/linkvouch/linkvouch/apk/Der", "content", "()[B"⟩ : MethodName)) pn_1) (fun m => ef_cont4 m d) ?_
  intro p e s m below meth cD s₁ hx hby hml hret hlk hZ hown hnm X0 e0 hs0
  have hown : s.vm.findClass "com/example/linkvouch/linkvouch/apk/Der" = some m.cls := hown
  have N0 := Fr.nil n0
  refine own_st (fr' := (mkF m 1 #[.val (.ref d)] [(.ref d)])) (fun t k => XS.aloadN X0.here hx rfl (hb hby d7_0) rfl rfl k) ?_
  obtain ⟨T73, X73, e73, st73⟩ := getF X0 hx hZ hown (host := "") (Or.inl (hw _ (List.mem_of_getElem? (i := 23) rfl))) Via.refl e0 F_bytes (g := (mkF m 1 #[.val (.ref d)] [(.ref d)])) rfl rfl (hb hby d7_1)
  refine own_st (fr' := (mkF m 4 #[.val (.ref d)] [(.ref a)])) st73 ?_
  refine own_st (fr' := (mkF m 5 #[.val (.ref d)] [(.ref d), (.ref a)])) (fun t k => XS.aloadN X73.here hx rfl (hb hby d7_4) rfl rfl k) ?_
  obtain ⟨T74, X74, e74, st74⟩ := getF X73 hx hZ hown (host := "") (Or.inl (hw _ (List.mem_of_getElem? (i := 29) rfl))) Via.refl e73 F_contentStart (g := (mkF m 5 #[.val (.ref d)] [(.ref d), (.ref a)])) rfl rfl (hb hby d7_5)
  refine own_st (fr' := (mkF m 8 #[.val (.ref d)] [(.int 3), (.ref a)])) st74 ?_
  refine own_st (fr' := (mkF m 9 #[.val (.ref d)] [(.ref d), (.int 3), (.ref a)])) (fun t k => XS.aloadN X74.here hx rfl (hb hby d7_8) rfl rfl k) ?_
  obtain ⟨T75, X75, e75, st75⟩ := getF X74 hx hZ hown (host := "") (Or.inl (hw _ (List.mem_of_getElem? (i := 31) rfl))) Via.refl e74 F_end (g := (mkF m 9 #[.val (.ref d)] [(.ref d), (.int 3), (.ref a)])) rfl rfl (hb hby d7_9)
  refine own_st (fr' := (mkF m 12 #[.val (.ref d)] [(.int 131), (.int 3), (.ref a)])) st75 ?_
  refine own_callS X75 hx hZ (y := (⟨"java/util/Arrays", "copyOfRange", "([BII)[B"⟩ : MethodName)) hown (hw _ (List.mem_of_getElem? (i := 38) rfl)) (hw _ (List.mem_of_getElem? (i := 39) rfl)) (hw _ (List.mem_of_getElem? (i := 40) rfl)) (hw _ (List.mem_of_getElem? (i := 41) rfl)) (by decide) (argsL := [(.ref a), (.int 3), (.int 131)]) (rest := []) (W := 0) (rm_cr1 l Z a0 hw [] a (3 : Int32) (131 : Int32) (131 : Int32) f h0 n0 Z0 VA EA ⟨by decide, by decide, by decide⟩ (by decide) (by decide)) e75 (by rw [hml]; rfl) (lenOf pd_2 rfl) rfl (Nat.le_of_eq rfl) (hb hby d7_12) (by decide) (by decide) (by decide) (by decide) ?_
  intro v76 T76 L76 X76 hQ76
  obtain ⟨⟨r, g, nl, rfl, hr, hnl, VR, hg⟩, Nq76, K76⟩ := hQ76
  have N76 := Fr.app N0 Nq76
  have enl : nl = (128 : Int32) := Int32.toInt_inj.mp (hnl.trans (by decide))
  subst enl
  exact own_retA X76 hx hlk hret rfl rfl (hb hby d7_15) (by decide) (by decide) (⟨⟨r, g, rfl, hr, VR, fun i hi => hg i (by show (i : Int) < (131 : Int) - 3; omega)⟩, N76, K76⟩)
theorem ef_enc4 (m : MethodId) (d : Addr) : entryFrame m #[(.ref d)] 1 = mkF m 0 #[.val (.ref d)] [] := by first | (simp [entryFrame, mkF, argsToLocals, Value.category, maxLocals]; done) | rfl
def Q_enc4 (Z : State) (d : Addr) (a : Addr) (f : Nat → Value) (h0 : Heap) (n0 : Nat) : Option Value → Heap → List Loc → Prop := fun v h L => (∃ r : Addr, v = some (.ref r) ∧ h0.size ≤ r ∧ own_A Z h r .byte 131 f) ∧ Fr n0 L ∧ Keep h0 h []
set_option maxRecDepth 65536 in
set_option maxHeartbeats 40000000 in
theorem rm_enc4 (l : Launch) (Z : State) (a0 : Array Value) (hw : ∀ d ∈ tables_1, d.before a0 Z = true) (ws : List Jvm.Cond) (d : Addr) (a : Addr) (f : Nat → Value) (h0 : Heap) (n0 : Nat) (Z0 : n0 ≤ h0.size) (F_bytes : Fld Z h0 d "com/example/linkvouch/linkvouch/apk/Der" "bytes" "[B" (.ref a)) (VA : own_A Z h0 a .byte 131 f) (EA : Exa Z h0 a "[B") (F_end : Fld Z h0 d "com/example/linkvouch/linkvouch/apk/Der" "end" "I" (.int 131)) (F_start : Fld Z h0 d "com/example/linkvouch/linkvouch/apk/Der" "start" "I" (.int 0)) :
    MetFree l (⟨"com/example/linkvouch/linkvouch/apk/Der", "encoded", "()[B"⟩ : MethodName) (head1 (Jvm.Cond.code (⟨"com/example/linkvouch/linkvouch/apk/Der", "encoded", "()[B"⟩ : MethodName) prog_30_method_8_code 1 (some (.array .byte)) :: ws) ({ frames := 2, cells := 1, slots := 304, locals := 60 } : Room)) (fun aX U => aX = #[(.ref d)] ∧ Z.Warmed39 U.vm ∧ U.heap = h0) (fun _ _ _ _ _ => True) (fun _ U o U' => ∃ v L, o = .returned v ∧ (Q_enc4 Z d a f h0 n0) v U'.heap L ∧ FrameEnd U o U' L ({ frames := 2, cells := 1, slots := 304, locals := 60 } : Room).cells ({ frames := 2, cells := 1, slots := 304, locals := 60 } : Room).slots) := by
  refine own_met (Q := (Q_enc4 Z d a f h0 n0)) (plainFor_of_name (x := (⟨"com/example/linkvouch/linkvouch/apk/Der", "encoded", "()[B"⟩ : MethodName)) pn_1) (fun m => ef_enc4 m d) ?_
  intro p e s m below meth cD s₁ hx hby hml hret hlk hZ hown hnm X0 e0 hs0
  have hown : s.vm.findClass "com/example/linkvouch/linkvouch/apk/Der" = some m.cls := hown
  have N0 := Fr.nil n0
  refine own_st (fr' := (mkF m 1 #[.val (.ref d)] [(.ref d)])) (fun t k => XS.aloadN X0.here hx rfl (hb hby d12_0) rfl rfl k) ?_
  obtain ⟨T77, X77, e77, st77⟩ := getF X0 hx hZ hown (host := "") (Or.inl (hw _ (List.mem_of_getElem? (i := 23) rfl))) Via.refl e0 F_bytes (g := (mkF m 1 #[.val (.ref d)] [(.ref d)])) rfl rfl (hb hby d12_1)
  refine own_st (fr' := (mkF m 4 #[.val (.ref d)] [(.ref a)])) st77 ?_
  refine own_st (fr' := (mkF m 5 #[.val (.ref d)] [(.ref d), (.ref a)])) (fun t k => XS.aloadN X77.here hx rfl (hb hby d12_4) rfl rfl k) ?_
  obtain ⟨T78, X78, e78, st78⟩ := getF X77 hx hZ hown (host := "") (Or.inl (hw _ (List.mem_of_getElem? (i := 27) rfl))) Via.refl e77 F_start (g := (mkF m 5 #[.val (.ref d)] [(.ref d), (.ref a)])) rfl rfl (hb hby d12_5)
  refine own_st (fr' := (mkF m 8 #[.val (.ref d)] [(.int 0), (.ref a)])) st78 ?_
  refine own_st (fr' := (mkF m 9 #[.val (.ref d)] [(.ref d), (.int 0), (.ref a)])) (fun t k => XS.aloadN X78.here hx rfl (hb hby d12_8) rfl rfl k) ?_
  obtain ⟨T79, X79, e79, st79⟩ := getF X78 hx hZ hown (host := "") (Or.inl (hw _ (List.mem_of_getElem? (i := 31) rfl))) Via.refl e78 F_end (g := (mkF m 9 #[.val (.ref d)] [(.ref d), (.int 0), (.ref a)])) rfl rfl (hb hby d12_9)
  refine own_st (fr' := (mkF m 12 #[.val (.ref d)] [(.int 131), (.int 0), (.ref a)])) st79 ?_
  refine own_callS X79 hx hZ (y := (⟨"java/util/Arrays", "copyOfRange", "([BII)[B"⟩ : MethodName)) hown (hw _ (List.mem_of_getElem? (i := 38) rfl)) (hw _ (List.mem_of_getElem? (i := 39) rfl)) (hw _ (List.mem_of_getElem? (i := 40) rfl)) (hw _ (List.mem_of_getElem? (i := 41) rfl)) (by decide) (argsL := [(.ref a), (.int 0), (.int 131)]) (rest := []) (W := 0) (rm_cr0 l Z a0 hw [] a (131 : Int32) f h0 n0 Z0 VA EA (by decide)) e79 (by rw [hml]; rfl) (lenOf pd_2 rfl) rfl (Nat.le_of_eq rfl) (hb hby d12_12) (by decide) (by decide) (by decide) (by decide) ?_
  intro v80 T80 L80 X80 hQ80
  obtain ⟨⟨r, rfl, hr, VR⟩, Nq80, K80⟩ := hQ80
  have N80 := Fr.app N0 Nq80
  exact own_retA X80 hx hlk hret rfl rfl (hb hby d12_15) (by decide) (by decide) (⟨⟨r, rfl, hr, VR⟩, N80, K80⟩)
theorem d1_37 : decode method_3_code 37 = .ok (.iload_n 0, 1) := by decide +kernel
theorem d1_38 : decode method_3_code 38 = .ok (.iconst 5, 1) := by decide +kernel
theorem d1_39 : decode method_3_code 39 = .ok (.if_icmp .ne 7, 3) := by decide +kernel
theorem d1_42 : decode method_3_code 42 = .ok (.sipush 255, 3) := by decide +kernel
theorem d1_45 : decode method_3_code 45 = .ok (.ireturn, 1) := by decide +kernel
theorem ef_len5 (m : MethodId)  : entryFrame m #[(.int 5)] 1 = mkF m 0 #[oI 5] [] := by first | (simp [entryFrame, mkF, argsToLocals, Value.category, maxLocals]; done) | rfl
def Q_len5 (Z : State)  (h0 : Heap) (n0 : Nat) : Option Value → Heap → List Loc → Prop := fun v h L => v = some (.int 255) ∧ Fr n0 L ∧ h = h0
set_option maxRecDepth 65536 in
set_option maxHeartbeats 40000000 in
theorem rm_len5 (l : Launch) (Z : State) (a0 : Array Value) (hw : ∀ d ∈ tables_1, d.before a0 Z = true) (ws : List Jvm.Cond)  (h0 : Heap) (n0 : Nat) (Z0 : n0 ≤ h0.size)  :
    MetFree l (⟨"com/example/linkvouch/linkvouch/apk/DerParsePinLaw", "lengthOf", "(I)I"⟩ : MethodName) (head1 (Jvm.Cond.code (⟨"com/example/linkvouch/linkvouch/apk/DerParsePinLaw", "lengthOf", "(I)I"⟩ : MethodName) method_3_code 1 (some .int) :: ws) ({ frames := 0, cells := 0, slots := 0, locals := 0 } : Room)) (fun aX U => aX = #[(.int 5)] ∧ Z.Warmed39 U.vm ∧ U.heap = h0) (fun _ _ _ _ _ => True) (fun _ U o U' => ∃ v L, o = .returned v ∧ (Q_len5 Z  h0 n0) v U'.heap L ∧ FrameEnd U o U' L ({ frames := 0, cells := 0, slots := 0, locals := 0 } : Room).cells ({ frames := 0, cells := 0, slots := 0, locals := 0 } : Room).slots) := by
  refine own_met (Q := (Q_len5 Z  h0 n0)) (plainFor_of_name (x := (⟨"com/example/linkvouch/linkvouch/apk/DerParsePinLaw", "lengthOf", "(I)I"⟩ : MethodName)) pn_2) (fun m => ef_len5 m ) ?_
  intro p e s m below meth cD s₁ hx hby hml hret hlk hZ hown hnm X0 e0 hs0
  have hown : s.vm.findClass "com/example/linkvouch/linkvouch/apk/DerParsePinLaw" = some m.cls := hown
  have N0 := Fr.nil n0
  refine own_st (fr' := (mkF m 1 #[oI 5] [(.int 5)])) (fun t k => XS.iloadN X0.here hx rfl (hb hby d1_0) rfl  k) ?_
  refine own_st (fr' := (mkF m 6 #[oI 5] [])) (fun t k => XS.ifYes X0.here hx rfl (pc0 := 1) (pc' := 6) rfl (hb hby d1_1) rfl ((if0 _ _).trans (own_feq (x := (5 : Int32)) (y := (0 : Int32)) (show ¬ 5 = 0 from by decide)).2) (by decide) (by decide) k) ?_
  refine own_st (fr' := (mkF m 7 #[oI 5] [(.int 5)])) (fun t k => XS.iloadN X0.here hx rfl (hb hby d1_6) rfl  k) ?_
  refine own_st (fr' := (mkF m 8 #[oI 5] [(.int 1), (.int 5)])) (fun t k => XS.iconst X0.here hx rfl (hb hby d1_7) k) ?_
  refine own_st (fr' := (mkF m 13 #[oI 5] [])) (fun t k => XS.icmpYes X0.here hx rfl (pc0 := 8) (pc' := 13) rfl (hb hby d1_8) rfl (own_feq (x := (5 : Int32)) (y := (1 : Int32)) (show ¬ 5 = 1 from by decide)).2 (by decide) (by decide) k) ?_
  refine own_st (fr' := (mkF m 14 #[oI 5] [(.int 5)])) (fun t k => XS.iloadN X0.here hx rfl (hb hby d1_13) rfl  k) ?_
  refine own_st (fr' := (mkF m 15 #[oI 5] [(.int 2), (.int 5)])) (fun t k => XS.iconst X0.here hx rfl (hb hby d1_14) k) ?_
  refine own_st (fr' := (mkF m 20 #[oI 5] [])) (fun t k => XS.icmpYes X0.here hx rfl (pc0 := 15) (pc' := 20) rfl (hb hby d1_15) rfl (own_feq (x := (5 : Int32)) (y := (2 : Int32)) (show ¬ 5 = 2 from by decide)).2 (by decide) (by decide) k) ?_
  refine own_st (fr' := (mkF m 21 #[oI 5] [(.int 5)])) (fun t k => XS.iloadN X0.here hx rfl (hb hby d1_20) rfl  k) ?_
  refine own_st (fr' := (mkF m 22 #[oI 5] [(.int 3), (.int 5)])) (fun t k => XS.iconst X0.here hx rfl (hb hby d1_21) k) ?_
  refine own_st (fr' := (mkF m 28 #[oI 5] [])) (fun t k => XS.icmpYes X0.here hx rfl (pc0 := 22) (pc' := 28) rfl (hb hby d1_22) rfl (own_feq (x := (5 : Int32)) (y := (3 : Int32)) (show ¬ 5 = 3 from by decide)).2 (by decide) (by decide) k) ?_
  refine own_st (fr' := (mkF m 29 #[oI 5] [(.int 5)])) (fun t k => XS.iloadN X0.here hx rfl (hb hby d1_28) rfl  k) ?_
  refine own_st (fr' := (mkF m 30 #[oI 5] [(.int 4), (.int 5)])) (fun t k => XS.iconst X0.here hx rfl (hb hby d1_29) k) ?_
  refine own_st (fr' := (mkF m 37 #[oI 5] [])) (fun t k => XS.icmpYes X0.here hx rfl (pc0 := 30) (pc' := 37) rfl (hb hby d1_30) rfl (own_feq (x := (5 : Int32)) (y := (4 : Int32)) (show ¬ 5 = 4 from by decide)).2 (by decide) (by decide) k) ?_
  refine own_st (fr' := (mkF m 38 #[oI 5] [(.int 5)])) (fun t k => XS.iloadN X0.here hx rfl (hb hby d1_37) rfl  k) ?_
  refine own_st (fr' := (mkF m 39 #[oI 5] [(.int 5), (.int 5)])) (fun t k => XS.iconst X0.here hx rfl (hb hby d1_38) k) ?_
  refine own_st (fr' := (mkF m 42 #[oI 5] [])) (fun t k => XS.icmpNo X0.here hx rfl (hb hby d1_39) rfl (own_teq (x := (5 : Int32)) (y := (5 : Int32)) (show 5 = 5 from by decide)).2 k) ?_
  refine own_st (fr' := (mkF m 45 #[oI 5] [(.int 255)])) (fun t k => XS.sipush X0.here hx rfl (hb hby d1_42) k) ?_
  exact own_retI X0 hx hlk hret (hb hby d1_45) (by decide) (by decide) (⟨rfl, N0, e0⟩)
theorem d2_48 : decode method_2_code 48 = .ok (.iload_n 0, 1) := by decide +kernel
theorem d2_49 : decode method_2_code 49 = .ok (.iconst 5, 1) := by decide +kernel
theorem d2_50 : decode method_2_code 50 = .ok (.if_icmp .ne 9, 3) := by decide +kernel
theorem d2_53 : decode method_2_code 53 = .ok (.sipush 258, 3) := by decide +kernel
theorem d2_56 : decode method_2_code 56 = .ok (.newarray .byte, 2) := by decide +kernel
theorem d2_58 : decode method_2_code 58 = .ok (.areturn, 1) := by decide +kernel
theorem ef_alloc5 (m : MethodId)  : entryFrame m #[(.int 5)] 1 = mkF m 0 #[oI 5] [] := by first | (simp [entryFrame, mkF, argsToLocals, Value.category, maxLocals]; done) | rfl
def Q_alloc5 (Z : State)  (h0 : Heap) (n0 : Nat) : Option Value → Heap → List Loc → Prop := fun v h L => (∃ r : Addr, v = some (.ref r) ∧ h0.size ≤ r ∧ n0 ≤ r ∧ own_A Z h r .byte 258 (fun _ => .int 0) ∧ Exa Z h r "[B") ∧ Fr n0 L ∧ Keep h0 h []
set_option maxRecDepth 65536 in
set_option maxHeartbeats 40000000 in
theorem rm_alloc5 (l : Launch) (Z : State) (a0 : Array Value) (hw : ∀ d ∈ tables_1, d.before a0 Z = true) (ws : List Jvm.Cond)  (h0 : Heap) (n0 : Nat) (Z0 : n0 ≤ h0.size)  :
    MetFree l (⟨"com/example/linkvouch/linkvouch/apk/DerParsePinLaw", "alloc", "(I)[B"⟩ : MethodName) (head1 (Jvm.Cond.code (⟨"com/example/linkvouch/linkvouch/apk/DerParsePinLaw", "alloc", "(I)[B"⟩ : MethodName) method_2_code 1 (some (.array .byte)) :: ws) ({ frames := 0, cells := 1, slots := 258, locals := 0 } : Room)) (fun aX U => aX = #[(.int 5)] ∧ Z.Warmed39 U.vm ∧ U.heap = h0) (fun _ _ _ _ _ => True) (fun _ U o U' => ∃ v L, o = .returned v ∧ (Q_alloc5 Z  h0 n0) v U'.heap L ∧ FrameEnd U o U' L ({ frames := 0, cells := 1, slots := 258, locals := 0 } : Room).cells ({ frames := 0, cells := 1, slots := 258, locals := 0 } : Room).slots) := by
  refine own_met (Q := (Q_alloc5 Z  h0 n0)) (plainFor_of_name (x := (⟨"com/example/linkvouch/linkvouch/apk/DerParsePinLaw", "alloc", "(I)[B"⟩ : MethodName)) pn_2) (fun m => ef_alloc5 m ) ?_
  intro p e s m below meth cD s₁ hx hby hml hret hlk hZ hown hnm X0 e0 hs0
  have hown : s.vm.findClass "com/example/linkvouch/linkvouch/apk/DerParsePinLaw" = some m.cls := hown
  have N0 := Fr.nil n0
  refine own_st (fr' := (mkF m 1 #[oI 5] [(.int 5)])) (fun t k => XS.iloadN X0.here hx rfl (hb hby d2_0) rfl  k) ?_
  refine own_st (fr' := (mkF m 8 #[oI 5] [])) (fun t k => XS.ifYes X0.here hx rfl (pc0 := 1) (pc' := 8) rfl (hb hby d2_1) rfl ((if0 _ _).trans (own_feq (x := (5 : Int32)) (y := (0 : Int32)) (show ¬ 5 = 0 from by decide)).2) (by decide) (by decide) k) ?_
  refine own_st (fr' := (mkF m 9 #[oI 5] [(.int 5)])) (fun t k => XS.iloadN X0.here hx rfl (hb hby d2_8) rfl  k) ?_
  refine own_st (fr' := (mkF m 10 #[oI 5] [(.int 1), (.int 5)])) (fun t k => XS.iconst X0.here hx rfl (hb hby d2_9) k) ?_
  refine own_st (fr' := (mkF m 17 #[oI 5] [])) (fun t k => XS.icmpYes X0.here hx rfl (pc0 := 10) (pc' := 17) rfl (hb hby d2_10) rfl (own_feq (x := (5 : Int32)) (y := (1 : Int32)) (show ¬ 5 = 1 from by decide)).2 (by decide) (by decide) k) ?_
  refine own_st (fr' := (mkF m 18 #[oI 5] [(.int 5)])) (fun t k => XS.iloadN X0.here hx rfl (hb hby d2_17) rfl  k) ?_
  refine own_st (fr' := (mkF m 19 #[oI 5] [(.int 2), (.int 5)])) (fun t k => XS.iconst X0.here hx rfl (hb hby d2_18) k) ?_
  refine own_st (fr' := (mkF m 26 #[oI 5] [])) (fun t k => XS.icmpYes X0.here hx rfl (pc0 := 19) (pc' := 26) rfl (hb hby d2_19) rfl (own_feq (x := (5 : Int32)) (y := (2 : Int32)) (show ¬ 5 = 2 from by decide)).2 (by decide) (by decide) k) ?_
  refine own_st (fr' := (mkF m 27 #[oI 5] [(.int 5)])) (fun t k => XS.iloadN X0.here hx rfl (hb hby d2_26) rfl  k) ?_
  refine own_st (fr' := (mkF m 28 #[oI 5] [(.int 3), (.int 5)])) (fun t k => XS.iconst X0.here hx rfl (hb hby d2_27) k) ?_
  refine own_st (fr' := (mkF m 37 #[oI 5] [])) (fun t k => XS.icmpYes X0.here hx rfl (pc0 := 28) (pc' := 37) rfl (hb hby d2_28) rfl (own_feq (x := (5 : Int32)) (y := (3 : Int32)) (show ¬ 5 = 3 from by decide)).2 (by decide) (by decide) k) ?_
  refine own_st (fr' := (mkF m 38 #[oI 5] [(.int 5)])) (fun t k => XS.iloadN X0.here hx rfl (hb hby d2_37) rfl  k) ?_
  refine own_st (fr' := (mkF m 39 #[oI 5] [(.int 4), (.int 5)])) (fun t k => XS.iconst X0.here hx rfl (hb hby d2_38) k) ?_
  refine own_st (fr' := (mkF m 48 #[oI 5] [])) (fun t k => XS.icmpYes X0.here hx rfl (pc0 := 39) (pc' := 48) rfl (hb hby d2_39) rfl (own_feq (x := (5 : Int32)) (y := (4 : Int32)) (show ¬ 5 = 4 from by decide)).2 (by decide) (by decide) k) ?_
  refine own_st (fr' := (mkF m 49 #[oI 5] [(.int 5)])) (fun t k => XS.iloadN X0.here hx rfl (hb hby d2_48) rfl  k) ?_
  refine own_st (fr' := (mkF m 50 #[oI 5] [(.int 5), (.int 5)])) (fun t k => XS.iconst X0.here hx rfl (hb hby d2_49) k) ?_
  refine own_st (fr' := (mkF m 53 #[oI 5] [])) (fun t k => XS.icmpNo X0.here hx rfl (hb hby d2_50) rfl (own_teq (x := (5 : Int32)) (y := (5 : Int32)) (show 5 = 5 from by decide)).2 k) ?_
  refine own_st (fr' := (mkF m 56 #[oI 5] [(.int 258)])) (fun t k => XS.sipush X0.here hx rfl (hb hby d2_53) k) ?_
  refine own_newarrE X0 hx hZ (hw _ (List.mem_of_getElem? (i := 7) rfl)) e0 (hb hby d2_56) (by decide) (cap := 258) (by decide) (by decide) (by decide) (by decide) rfl (C := "[B") rfl ?_
  intro T81 h81 b81 g81 X81 e81 E81 VA81 EX81
  have V81 := own_B.new VA81
  have ge_b81 : n0 ≤ b81 := Nat.le_trans Z0 (Nat.le_of_eq g81.symm)
  have sz_b81 : h0.size ≤ b81 := Nat.le_trans (Nat.le_refl _) (Nat.le_of_eq g81.symm)
  exact own_retA X81 hx hlk hret rfl rfl (hb hby d2_58) (by decide) (by decide) (by rw [e81]; exact ⟨⟨b81, rfl, sz_b81, ge_b81, VA81, EX81⟩, N0, (Keep.ext (Keep.refl h0 []) E81)⟩)
theorem ef_read5 (m : MethodId) (a : Addr) : entryFrame m #[(.ref a), (.int 0), (.int 258)] 10 = mkF m 0 #[.val (.ref a), oI 0, oI 258, .unset, .unset, .unset, .unset, .unset, .unset, .unset] [] := by first | (simp [entryFrame, mkF, argsToLocals, Value.category, maxLocals]; done) | rfl
def Q_read5 (Z : State) (a : Addr) (t' : Int32) (f : Nat → Value) (h0 : Heap) (n0 : Nat) : Option Value → Heap → List Loc → Prop := fun v h L => (∃ d : Addr, v = some (.ref d) ∧ h0.size ≤ d ∧ Exa Z h d "com/example/linkvouch/linkvouch/apk/Der" ∧ Fld Z h d "com/example/linkvouch/linkvouch/apk/Der" "bytes" "[B" (.ref a) ∧ Fld Z h d "com/example/linkvouch/linkvouch/apk/Der" "tag" "I" (.int (t' &&& 255)) ∧ Fld Z h d "com/example/linkvouch/linkvouch/apk/Der" "start" "I" (.int 0) ∧ Fld Z h d "com/example/linkvouch/linkvouch/apk/Der" "contentStart" "I" (.int 3) ∧ Fld Z h d "com/example/linkvouch/linkvouch/apk/Der" "end" "I" (.int 258)) ∧ Fr n0 L ∧ Keep h0 h []
set_option maxRecDepth 65536 in
set_option maxHeartbeats 40000000 in
theorem rm_read5 (l : Launch) (Z : State) (a0 : Array Value) (hw : ∀ d ∈ tables_1, d.before a0 Z = true) (ws : List Jvm.Cond) (a : Addr) (t' : Int32) (f : Nat → Value) (h0 : Heap) (n0 : Nat) (Z0 : n0 ≤ h0.size) (VA : own_A Z h0 a .byte 258 f) (h_0 : f 0 = .int t') (h_1 : f 1 = .int (-127)) (h_2 : f 2 = .int (-1)) (htag : ¬ ((t' &&& 255) &&& 31).toInt = 31) :
    MetFree l (⟨"com/example/linkvouch/linkvouch/apk/Der", "read", "([BII)Lcom/example/linkvouch/linkvouch/apk/Der;"⟩ : MethodName) (head1 (Jvm.Cond.code (⟨"com/example/linkvouch/linkvouch/apk/Der", "read", "([BII)Lcom/example/linkvouch/linkvouch/apk/Der;"⟩ : MethodName) prog_30_method_3_code 10 (some (.object "com/example/linkvouch/linkvouch/apk/Der")) :: ws) ({ frames := 2, cells := 1, slots := 5, locals := 40 } : Room)) (fun aX U => aX = #[(.ref a), (.int 0), (.int 258)] ∧ Z.Warmed39 U.vm ∧ U.heap = h0) (fun _ _ _ _ _ => True) (fun _ U o U' => ∃ v L, o = .returned v ∧ (Q_read5 Z a t' f h0 n0) v U'.heap L ∧ FrameEnd U o U' L ({ frames := 2, cells := 1, slots := 5, locals := 40 } : Room).cells ({ frames := 2, cells := 1, slots := 5, locals := 40 } : Room).slots) := by
  refine own_met (Q := (Q_read5 Z a t' f h0 n0)) (plainFor_of_name (x := (⟨"com/example/linkvouch/linkvouch/apk/Der", "read", "([BII)Lcom/example/linkvouch/linkvouch/apk/Der;"⟩ : MethodName)) pn_1) (fun m => ef_read5 m a) ?_
  intro p e s m below meth cD s₁ hx hby hml hret hlk hZ hown hnm X0 e0 hs0
  have hown : s.vm.findClass "com/example/linkvouch/linkvouch/apk/Der" = some m.cls := hown
  have N0 := Fr.nil n0
  refine own_st (fr' := (mkF m 1 #[.val (.ref a), oI 0, oI 258, .unset, .unset, .unset, .unset, .unset, .unset, .unset] [(.int 258)])) (fun t k => XS.iloadN X0.here hx rfl (hb hby d4_0) rfl  k) ?_
  refine own_st (fr' := (mkF m 2 #[.val (.ref a), oI 0, oI 258, .unset, .unset, .unset, .unset, .unset, .unset, .unset] [(.int 0), (.int 258)])) (fun t k => XS.iloadN X0.here hx rfl (hb hby d4_1) rfl  k) ?_
  refine own_st (fr' := (mkF m 3 #[.val (.ref a), oI 0, oI 258, .unset, .unset, .unset, .unset, .unset, .unset, .unset] [(.int 258)])) (fun t k => XS.isub X0.here hx rfl (hb hby d4_2) rfl k) ?_
  refine own_st (fr' := (mkF m 4 #[.val (.ref a), oI 0, oI 258, .unset, .unset, .unset, .unset, .unset, .unset, .unset] [(.int 2), (.int 258)])) (fun t k => XS.iconst X0.here hx rfl (hb hby d4_3) k) ?_
  refine own_st (fr' := (mkF m 17 #[.val (.ref a), oI 0, oI 258, .unset, .unset, .unset, .unset, .unset, .unset, .unset] [])) (fun t k => XS.icmpYes X0.here hx rfl (pc0 := 4) (pc' := 17) rfl (hb hby d4_4) rfl (own_flt (x := (258 : Int32)) (y := (2 : Int32)) (show ¬ 258 < 2 from by decide)).2.1 (by decide) (by decide) k) ?_
  refine own_st (fr' := (mkF m 18 #[.val (.ref a), oI 0, oI 258, .unset, .unset, .unset, .unset, .unset, .unset, .unset] [(.ref a)])) (fun t k => XS.aloadN X0.here hx rfl (hb hby d4_17) rfl rfl k) ?_
  refine own_st (fr' := (mkF m 19 #[.val (.ref a), oI 0, oI 258, .unset, .unset, .unset, .unset, .unset, .unset, .unset] [(.int 0), (.ref a)])) (fun t k => XS.iloadN X0.here hx rfl (hb hby d4_18) rfl  k) ?_
  refine own_baload (j := (0 : Int32)) X0 hx hZ e0 VA (by decide) (by decide) (v := (.int t')) (h_0) (hb hby d4_19) ?_
  refine own_st (fr' := (mkF m 23 #[.val (.ref a), oI 0, oI 258, .unset, .unset, .unset, .unset, .unset, .unset, .unset] [(.int 255), (.int t')])) (fun t k => XS.sipush X0.here hx rfl (hb hby d4_20) k) ?_
  refine own_st (fr' := (mkF m 24 #[.val (.ref a), oI 0, oI 258, .unset, .unset, .unset, .unset, .unset, .unset, .unset] [(.int (t' &&& (255 : Int32)))])) (fun t k => XS.iand X0.here hx rfl (hb hby d4_23) rfl k) ?_
  refine own_st (fr' := (mkF m 25 #[.val (.ref a), oI 0, oI 258, .val (.int (t' &&& (255 : Int32))), .unset, .unset, .unset, .unset, .unset, .unset] [])) (fun t k => XS.istoreN X0.here hx rfl (hb hby d4_24) rfl  (l' := #[.val (.ref a), oI 0, oI 258, .val (.int (t' &&& (255 : Int32))), .unset, .unset, .unset, .unset, .unset, .unset]) rfl k) ?_
  refine own_st (fr' := (mkF m 26 #[.val (.ref a), oI 0, oI 258, .val (.int (t' &&& (255 : Int32))), .unset, .unset, .unset, .unset, .unset, .unset] [(.int (t' &&& (255 : Int32)))])) (fun t k => XS.iloadN X0.here hx rfl (hb hby d4_25) rfl  k) ?_
  refine own_st (fr' := (mkF m 28 #[.val (.ref a), oI 0, oI 258, .val (.int (t' &&& (255 : Int32))), .unset, .unset, .unset, .unset, .unset, .unset] [(.int 31), (.int (t' &&& (255 : Int32)))])) (fun t k => XS.bipush X0.here hx rfl (hb hby d4_26) k) ?_
  refine own_st (fr' := (mkF m 29 #[.val (.ref a), oI 0, oI 258, .val (.int (t' &&& (255 : Int32))), .unset, .unset, .unset, .unset, .unset, .unset] [(.int ((t' &&& (255 : Int32)) &&& (31 : Int32)))])) (fun t k => XS.iand X0.here hx rfl (hb hby d4_28) rfl k) ?_
  refine own_st (fr' := (mkF m 31 #[.val (.ref a), oI 0, oI 258, .val (.int (t' &&& (255 : Int32))), .unset, .unset, .unset, .unset, .unset, .unset] [(.int 31), (.int ((t' &&& (255 : Int32)) &&& (31 : Int32)))])) (fun t k => XS.bipush X0.here hx rfl (hb hby d4_29) k) ?_
  refine own_st (fr' := (mkF m 44 #[.val (.ref a), oI 0, oI 258, .val (.int (t' &&& (255 : Int32))), .unset, .unset, .unset, .unset, .unset, .unset] [])) (fun t k => XS.icmpYes X0.here hx rfl (pc0 := 31) (pc' := 44) rfl (hb hby d4_31) rfl (own_feq (x := ((t' &&& (255 : Int32)) &&& (31 : Int32))) (y := (31 : Int32)) (show ¬ ((t' &&& (255 : Int32)) &&& (31 : Int32)).toInt = 31 from htag)).2 (by decide) (by decide) k) ?_
  refine own_st (fr' := (mkF m 45 #[.val (.ref a), oI 0, oI 258, .val (.int (t' &&& (255 : Int32))), .unset, .unset, .unset, .unset, .unset, .unset] [(.ref a)])) (fun t k => XS.aloadN X0.here hx rfl (hb hby d4_44) rfl rfl k) ?_
  refine own_st (fr' := (mkF m 46 #[.val (.ref a), oI 0, oI 258, .val (.int (t' &&& (255 : Int32))), .unset, .unset, .unset, .unset, .unset, .unset] [(.int 0), (.ref a)])) (fun t k => XS.iloadN X0.here hx rfl (hb hby d4_45) rfl  k) ?_
  refine own_st (fr' := (mkF m 47 #[.val (.ref a), oI 0, oI 258, .val (.int (t' &&& (255 : Int32))), .unset, .unset, .unset, .unset, .unset, .unset] [(.int 1), (.int 0), (.ref a)])) (fun t k => XS.iconst X0.here hx rfl (hb hby d4_46) k) ?_
  refine own_st (fr' := (mkF m 48 #[.val (.ref a), oI 0, oI 258, .val (.int (t' &&& (255 : Int32))), .unset, .unset, .unset, .unset, .unset, .unset] [(.int 1), (.ref a)])) (fun t k => XS.iadd X0.here hx rfl (hb hby d4_47) rfl k) ?_
  refine own_baload (j := (1 : Int32)) X0 hx hZ e0 VA (by decide) (by decide) (v := (.int (-127 : Int32))) (h_1) (hb hby d4_48) ?_
  refine own_st (fr' := (mkF m 52 #[.val (.ref a), oI 0, oI 258, .val (.int (t' &&& (255 : Int32))), .unset, .unset, .unset, .unset, .unset, .unset] [(.int 255), (.int (-127 : Int32))])) (fun t k => XS.sipush X0.here hx rfl (hb hby d4_49) k) ?_
  refine own_st (fr' := (mkF m 53 #[.val (.ref a), oI 0, oI 258, .val (.int (t' &&& (255 : Int32))), .unset, .unset, .unset, .unset, .unset, .unset] [(.int 129)])) (fun t k => XS.iand X0.here hx rfl (hb hby d4_52) rfl k) ?_
  refine own_st (fr' := (mkF m 55 #[.val (.ref a), oI 0, oI 258, .val (.int (t' &&& (255 : Int32))), oI 129, .unset, .unset, .unset, .unset, .unset] [])) (fun t k => XS.istore X0.here hx rfl (hb hby d4_53) rfl  (l' := #[.val (.ref a), oI 0, oI 258, .val (.int (t' &&& (255 : Int32))), oI 129, .unset, .unset, .unset, .unset, .unset]) rfl k) ?_
  refine own_st (fr' := (mkF m 56 #[.val (.ref a), oI 0, oI 258, .val (.int (t' &&& (255 : Int32))), oI 129, .unset, .unset, .unset, .unset, .unset] [(.int 0)])) (fun t k => XS.iloadN X0.here hx rfl (hb hby d4_55) rfl  k) ?_
  refine own_st (fr' := (mkF m 57 #[.val (.ref a), oI 0, oI 258, .val (.int (t' &&& (255 : Int32))), oI 129, .unset, .unset, .unset, .unset, .unset] [(.int 2), (.int 0)])) (fun t k => XS.iconst X0.here hx rfl (hb hby d4_56) k) ?_
  refine own_st (fr' := (mkF m 58 #[.val (.ref a), oI 0, oI 258, .val (.int (t' &&& (255 : Int32))), oI 129, .unset, .unset, .unset, .unset, .unset] [(.int 2)])) (fun t k => XS.iadd X0.here hx rfl (hb hby d4_57) rfl k) ?_
  refine own_st (fr' := (mkF m 60 #[.val (.ref a), oI 0, oI 258, .val (.int (t' &&& (255 : Int32))), oI 129, oI 2, .unset, .unset, .unset, .unset] [])) (fun t k => XS.istore X0.here hx rfl (hb hby d4_58) rfl  (l' := #[.val (.ref a), oI 0, oI 258, .val (.int (t' &&& (255 : Int32))), oI 129, oI 2, .unset, .unset, .unset, .unset]) rfl k) ?_
  refine own_st (fr' := (mkF m 62 #[.val (.ref a), oI 0, oI 258, .val (.int (t' &&& (255 : Int32))), oI 129, oI 2, .unset, .unset, .unset, .unset] [(.int 129)])) (fun t k => XS.iload X0.here hx rfl (hb hby d4_60) rfl  k) ?_
  refine own_st (fr' := (mkF m 63 #[.val (.ref a), oI 0, oI 258, .val (.int (t' &&& (255 : Int32))), oI 129, oI 2, .unset, .unset, .unset, .unset] [(.long (129 : Int64))])) (fun t k => XS.i2l X0.here hx rfl (hb hby d4_62) rfl k) ?_
  refine own_st (fr' := (mkF m 65 #[.val (.ref a), oI 0, oI 258, .val (.int (t' &&& (255 : Int32))), oI 129, oI 2, .val (.long (129 : Int64)), .second, .unset, .unset] [])) (fun t k => XS.lstore X0.here hx rfl (hb hby d4_63) rfl  (l' := #[.val (.ref a), oI 0, oI 258, .val (.int (t' &&& (255 : Int32))), oI 129, oI 2, .val (.long (129 : Int64)), .second, .unset, .unset]) rfl k) ?_
  refine own_st (fr' := (mkF m 67 #[.val (.ref a), oI 0, oI 258, .val (.int (t' &&& (255 : Int32))), oI 129, oI 2, .val (.long (129 : Int64)), .second, .unset, .unset] [(.int 129)])) (fun t k => XS.iload X0.here hx rfl (hb hby d4_65) rfl  k) ?_
  refine own_st (fr' := (mkF m 70 #[.val (.ref a), oI 0, oI 258, .val (.int (t' &&& (255 : Int32))), oI 129, oI 2, .val (.long (129 : Int64)), .second, .unset, .unset] [(.int 128), (.int 129)])) (fun t k => XS.sipush X0.here hx rfl (hb hby d4_67) k) ?_
  refine own_st (fr' := (mkF m 73 #[.val (.ref a), oI 0, oI 258, .val (.int (t' &&& (255 : Int32))), oI 129, oI 2, .val (.long (129 : Int64)), .second, .unset, .unset] [])) (fun t k => XS.icmpNo X0.here hx rfl (hb hby d4_70) rfl (own_flt (x := (129 : Int32)) (y := (128 : Int32)) (show ¬ 129 < 128 from by decide)).1 k) ?_
  refine own_st (fr' := (mkF m 75 #[.val (.ref a), oI 0, oI 258, .val (.int (t' &&& (255 : Int32))), oI 129, oI 2, .val (.long (129 : Int64)), .second, .unset, .unset] [(.int 129)])) (fun t k => XS.iload X0.here hx rfl (hb hby d4_73) rfl  k) ?_
  refine own_st (fr' := (mkF m 77 #[.val (.ref a), oI 0, oI 258, .val (.int (t' &&& (255 : Int32))), oI 129, oI 2, .val (.long (129 : Int64)), .second, .unset, .unset] [(.int 127), (.int 129)])) (fun t k => XS.bipush X0.here hx rfl (hb hby d4_75) k) ?_
  refine own_st (fr' := (mkF m 78 #[.val (.ref a), oI 0, oI 258, .val (.int (t' &&& (255 : Int32))), oI 129, oI 2, .val (.long (129 : Int64)), .second, .unset, .unset] [(.int 1)])) (fun t k => XS.iand X0.here hx rfl (hb hby d4_77) rfl k) ?_
  refine own_st (fr' := (mkF m 80 #[.val (.ref a), oI 0, oI 258, .val (.int (t' &&& (255 : Int32))), oI 129, oI 2, .val (.long (129 : Int64)), .second, oI 1, .unset] [])) (fun t k => XS.istore X0.here hx rfl (hb hby d4_78) rfl  (l' := #[.val (.ref a), oI 0, oI 258, .val (.int (t' &&& (255 : Int32))), oI 129, oI 2, .val (.long (129 : Int64)), .second, oI 1, .unset]) rfl k) ?_
  refine own_st (fr' := (mkF m 82 #[.val (.ref a), oI 0, oI 258, .val (.int (t' &&& (255 : Int32))), oI 129, oI 2, .val (.long (129 : Int64)), .second, oI 1, .unset] [(.int 1)])) (fun t k => XS.iload X0.here hx rfl (hb hby d4_80) rfl  k) ?_
  refine own_st (fr' := (mkF m 85 #[.val (.ref a), oI 0, oI 258, .val (.int (t' &&& (255 : Int32))), oI 129, oI 2, .val (.long (129 : Int64)), .second, oI 1, .unset] [])) (fun t k => XS.ifNo X0.here hx rfl (hb hby d4_82) rfl ((if0 _ _).trans (own_feq (x := (1 : Int32)) (y := (0 : Int32)) (show ¬ 1 = 0 from by decide)).1) k) ?_
  refine own_st (fr' := (mkF m 87 #[.val (.ref a), oI 0, oI 258, .val (.int (t' &&& (255 : Int32))), oI 129, oI 2, .val (.long (129 : Int64)), .second, oI 1, .unset] [(.int 1)])) (fun t k => XS.iload X0.here hx rfl (hb hby d4_85) rfl  k) ?_
  refine own_st (fr' := (mkF m 88 #[.val (.ref a), oI 0, oI 258, .val (.int (t' &&& (255 : Int32))), oI 129, oI 2, .val (.long (129 : Int64)), .second, oI 1, .unset] [(.int 4), (.int 1)])) (fun t k => XS.iconst X0.here hx rfl (hb hby d4_87) k) ?_
  refine own_st (fr' := (mkF m 91 #[.val (.ref a), oI 0, oI 258, .val (.int (t' &&& (255 : Int32))), oI 129, oI 2, .val (.long (129 : Int64)), .second, oI 1, .unset] [])) (fun t k => XS.icmpNo X0.here hx rfl (hb hby d4_88) rfl (own_flt (x := (4 : Int32)) (y := (1 : Int32)) (show ¬ 4 < 1 from by decide)).2.2.1 k) ?_
  refine own_st (fr' := (mkF m 93 #[.val (.ref a), oI 0, oI 258, .val (.int (t' &&& (255 : Int32))), oI 129, oI 2, .val (.long (129 : Int64)), .second, oI 1, .unset] [(.int 1)])) (fun t k => XS.iload X0.here hx rfl (hb hby d4_91) rfl  k) ?_
  refine own_st (fr' := (mkF m 94 #[.val (.ref a), oI 0, oI 258, .val (.int (t' &&& (255 : Int32))), oI 129, oI 2, .val (.long (129 : Int64)), .second, oI 1, .unset] [(.int 258), (.int 1)])) (fun t k => XS.iloadN X0.here hx rfl (hb hby d4_93) rfl  k) ?_
  refine own_st (fr' := (mkF m 96 #[.val (.ref a), oI 0, oI 258, .val (.int (t' &&& (255 : Int32))), oI 129, oI 2, .val (.long (129 : Int64)), .second, oI 1, .unset] [(.int 2), (.int 258), (.int 1)])) (fun t k => XS.iload X0.here hx rfl (hb hby d4_94) rfl  k) ?_
  refine own_st (fr' := (mkF m 97 #[.val (.ref a), oI 0, oI 258, .val (.int (t' &&& (255 : Int32))), oI 129, oI 2, .val (.long (129 : Int64)), .second, oI 1, .unset] [(.int 256), (.int 1)])) (fun t k => XS.isub X0.here hx rfl (hb hby d4_96) rfl k) ?_
  refine own_st (fr' := (mkF m 110 #[.val (.ref a), oI 0, oI 258, .val (.int (t' &&& (255 : Int32))), oI 129, oI 2, .val (.long (129 : Int64)), .second, oI 1, .unset] [])) (fun t k => XS.icmpYes X0.here hx rfl (pc0 := 97) (pc' := 110) rfl (hb hby d4_97) rfl (own_flt (x := (256 : Int32)) (y := (1 : Int32)) (show ¬ 256 < 1 from by decide)).2.2.2 (by decide) (by decide) k) ?_
  refine own_st (fr' := (mkF m 111 #[.val (.ref a), oI 0, oI 258, .val (.int (t' &&& (255 : Int32))), oI 129, oI 2, .val (.long (129 : Int64)), .second, oI 1, .unset] [(.long (0 : Int64))])) (fun t k => XS.lconst X0.here hx rfl (hb hby d4_110) k) ?_
  refine own_st (fr' := (mkF m 113 #[.val (.ref a), oI 0, oI 258, .val (.int (t' &&& (255 : Int32))), oI 129, oI 2, .val (.long (0 : Int64)), .second, oI 1, .unset] [])) (fun t k => XS.lstore X0.here hx rfl (hb hby d4_111) rfl  (l' := #[.val (.ref a), oI 0, oI 258, .val (.int (t' &&& (255 : Int32))), oI 129, oI 2, .val (.long (0 : Int64)), .second, oI 1, .unset]) rfl k) ?_
  refine own_st (fr' := (mkF m 114 #[.val (.ref a), oI 0, oI 258, .val (.int (t' &&& (255 : Int32))), oI 129, oI 2, .val (.long (0 : Int64)), .second, oI 1, .unset] [(.int 0)])) (fun t k => XS.iconst X0.here hx rfl (hb hby d4_113) k) ?_
  refine own_st (fr' := (mkF m 116 #[.val (.ref a), oI 0, oI 258, .val (.int (t' &&& (255 : Int32))), oI 129, oI 2, .val (.long (0 : Int64)), .second, oI 1, oI 0] [])) (fun t k => XS.istore X0.here hx rfl (hb hby d4_114) rfl  (l' := #[.val (.ref a), oI 0, oI 258, .val (.int (t' &&& (255 : Int32))), oI 129, oI 2, .val (.long (0 : Int64)), .second, oI 1, oI 0]) rfl k) ?_
  refine own_st (fr' := (mkF m 118 #[.val (.ref a), oI 0, oI 258, .val (.int (t' &&& (255 : Int32))), oI 129, oI 2, .val (.long (0 : Int64)), .second, oI 1, oI 0] [(.int 0)])) (fun t k => XS.iload X0.here hx rfl (hb hby d4_116) rfl  k) ?_
  refine own_st (fr' := (mkF m 120 #[.val (.ref a), oI 0, oI 258, .val (.int (t' &&& (255 : Int32))), oI 129, oI 2, .val (.long (0 : Int64)), .second, oI 1, oI 0] [(.int 1), (.int 0)])) (fun t k => XS.iload X0.here hx rfl (hb hby d4_118) rfl  k) ?_
  refine own_st (fr' := (mkF m 123 #[.val (.ref a), oI 0, oI 258, .val (.int (t' &&& (255 : Int32))), oI 129, oI 2, .val (.long (0 : Int64)), .second, oI 1, oI 0] [])) (fun t k => XS.icmpNo X0.here hx rfl (hb hby d4_120) rfl (own_tlt (x := (0 : Int32)) (y := (1 : Int32)) (show 0 < 1 from by decide)).2.1 k) ?_
  refine own_st (fr' := (mkF m 125 #[.val (.ref a), oI 0, oI 258, .val (.int (t' &&& (255 : Int32))), oI 129, oI 2, .val (.long (0 : Int64)), .second, oI 1, oI 0] [(.long (0 : Int64))])) (fun t k => XS.lload X0.here hx rfl (hb hby d4_123) rfl  k) ?_
  refine own_st (fr' := (mkF m 127 #[.val (.ref a), oI 0, oI 258, .val (.int (t' &&& (255 : Int32))), oI 129, oI 2, .val (.long (0 : Int64)), .second, oI 1, oI 0] [(.int 8), (.long (0 : Int64))])) (fun t k => XS.bipush X0.here hx rfl (hb hby d4_125) k) ?_
  refine own_st (fr' := (mkF m 128 #[.val (.ref a), oI 0, oI 258, .val (.int (t' &&& (255 : Int32))), oI 129, oI 2, .val (.long (0 : Int64)), .second, oI 1, oI 0] [(.long (0 : Int64))])) (fun t k => XS.lshl X0.here hx rfl (hb hby d4_127) rfl k) ?_
  refine own_st (fr' := (mkF m 129 #[.val (.ref a), oI 0, oI 258, .val (.int (t' &&& (255 : Int32))), oI 129, oI 2, .val (.long (0 : Int64)), .second, oI 1, oI 0] [(.ref a), (.long (0 : Int64))])) (fun t k => XS.aloadN X0.here hx rfl (hb hby d4_128) rfl rfl k) ?_
  refine own_st (fr' := (mkF m 131 #[.val (.ref a), oI 0, oI 258, .val (.int (t' &&& (255 : Int32))), oI 129, oI 2, .val (.long (0 : Int64)), .second, oI 1, oI 0] [(.int 2), (.ref a), (.long (0 : Int64))])) (fun t k => XS.iload X0.here hx rfl (hb hby d4_129) rfl  k) ?_
  refine own_st (fr' := (mkF m 133 #[.val (.ref a), oI 0, oI 258, .val (.int (t' &&& (255 : Int32))), oI 129, oI 2, .val (.long (0 : Int64)), .second, oI 1, oI 0] [(.int 0), (.int 2), (.ref a), (.long (0 : Int64))])) (fun t k => XS.iload X0.here hx rfl (hb hby d4_131) rfl  k) ?_
  refine own_st (fr' := (mkF m 134 #[.val (.ref a), oI 0, oI 258, .val (.int (t' &&& (255 : Int32))), oI 129, oI 2, .val (.long (0 : Int64)), .second, oI 1, oI 0] [(.int 2), (.ref a), (.long (0 : Int64))])) (fun t k => XS.iadd X0.here hx rfl (hb hby d4_133) rfl k) ?_
  refine own_baload (j := (2 : Int32)) X0 hx hZ e0 VA (by decide) (by decide) (v := (.int (-1 : Int32))) (h_2) (hb hby d4_134) ?_
  refine own_st (fr' := (mkF m 138 #[.val (.ref a), oI 0, oI 258, .val (.int (t' &&& (255 : Int32))), oI 129, oI 2, .val (.long (0 : Int64)), .second, oI 1, oI 0] [(.int 255), (.int (-1 : Int32)), (.long (0 : Int64))])) (fun t k => XS.sipush X0.here hx rfl (hb hby d4_135) k) ?_
  refine own_st (fr' := (mkF m 139 #[.val (.ref a), oI 0, oI 258, .val (.int (t' &&& (255 : Int32))), oI 129, oI 2, .val (.long (0 : Int64)), .second, oI 1, oI 0] [(.int 255), (.long (0 : Int64))])) (fun t k => XS.iand X0.here hx rfl (hb hby d4_138) rfl k) ?_
  refine own_st (fr' := (mkF m 140 #[.val (.ref a), oI 0, oI 258, .val (.int (t' &&& (255 : Int32))), oI 129, oI 2, .val (.long (0 : Int64)), .second, oI 1, oI 0] [(.long (255 : Int64)), (.long (0 : Int64))])) (fun t k => XS.i2l X0.here hx rfl (hb hby d4_139) rfl k) ?_
  refine own_st (fr' := (mkF m 141 #[.val (.ref a), oI 0, oI 258, .val (.int (t' &&& (255 : Int32))), oI 129, oI 2, .val (.long (0 : Int64)), .second, oI 1, oI 0] [(.long (255 : Int64))])) (fun t k => XS.lor X0.here hx rfl (hb hby d4_140) rfl k) ?_
  refine own_st (fr' := (mkF m 143 #[.val (.ref a), oI 0, oI 258, .val (.int (t' &&& (255 : Int32))), oI 129, oI 2, .val (.long (255 : Int64)), .second, oI 1, oI 0] [])) (fun t k => XS.lstore X0.here hx rfl (hb hby d4_141) rfl  (l' := #[.val (.ref a), oI 0, oI 258, .val (.int (t' &&& (255 : Int32))), oI 129, oI 2, .val (.long (255 : Int64)), .second, oI 1, oI 0]) rfl k) ?_
  refine own_st (fr' := (mkF m 146 #[.val (.ref a), oI 0, oI 258, .val (.int (t' &&& (255 : Int32))), oI 129, oI 2, .val (.long (255 : Int64)), .second, oI 1, oI 1] [])) (fun t k => XS.iinc X0.here hx rfl (hb hby d4_143) rfl (l' := #[.val (.ref a), oI 0, oI 258, .val (.int (t' &&& (255 : Int32))), oI 129, oI 2, .val (.long (255 : Int64)), .second, oI 1, oI 1]) rfl k) ?_
  refine own_st (fr' := (mkF m 116 #[.val (.ref a), oI 0, oI 258, .val (.int (t' &&& (255 : Int32))), oI 129, oI 2, .val (.long (255 : Int64)), .second, oI 1, oI 1] [])) (fun t k => XS.goto X0.here hx rfl (pc0 := 146) (pc' := 116) rfl (hb hby d4_146) (by decide) (by decide) k) ?_
  refine own_st (fr' := (mkF m 118 #[.val (.ref a), oI 0, oI 258, .val (.int (t' &&& (255 : Int32))), oI 129, oI 2, .val (.long (255 : Int64)), .second, oI 1, oI 1] [(.int 1)])) (fun t k => XS.iload X0.here hx rfl (hb hby d4_116) rfl  k) ?_
  refine own_st (fr' := (mkF m 120 #[.val (.ref a), oI 0, oI 258, .val (.int (t' &&& (255 : Int32))), oI 129, oI 2, .val (.long (255 : Int64)), .second, oI 1, oI 1] [(.int 1), (.int 1)])) (fun t k => XS.iload X0.here hx rfl (hb hby d4_118) rfl  k) ?_
  refine own_st (fr' := (mkF m 149 #[.val (.ref a), oI 0, oI 258, .val (.int (t' &&& (255 : Int32))), oI 129, oI 2, .val (.long (255 : Int64)), .second, oI 1, oI 1] [])) (fun t k => XS.icmpYes X0.here hx rfl (pc0 := 120) (pc' := 149) rfl (hb hby d4_120) rfl (own_flt (x := (1 : Int32)) (y := (1 : Int32)) (show ¬ 1 < 1 from by decide)).2.1 (by decide) (by decide) k) ?_
  refine own_st (fr' := (mkF m 151 #[.val (.ref a), oI 0, oI 258, .val (.int (t' &&& (255 : Int32))), oI 129, oI 2, .val (.long (255 : Int64)), .second, oI 1, oI 1] [(.int 2)])) (fun t k => XS.iload X0.here hx rfl (hb hby d4_149) rfl  k) ?_
  refine own_st (fr' := (mkF m 153 #[.val (.ref a), oI 0, oI 258, .val (.int (t' &&& (255 : Int32))), oI 129, oI 2, .val (.long (255 : Int64)), .second, oI 1, oI 1] [(.int 1), (.int 2)])) (fun t k => XS.iload X0.here hx rfl (hb hby d4_151) rfl  k) ?_
  refine own_st (fr' := (mkF m 154 #[.val (.ref a), oI 0, oI 258, .val (.int (t' &&& (255 : Int32))), oI 129, oI 2, .val (.long (255 : Int64)), .second, oI 1, oI 1] [(.int 3)])) (fun t k => XS.iadd X0.here hx rfl (hb hby d4_153) rfl k) ?_
  refine own_st (fr' := (mkF m 156 #[.val (.ref a), oI 0, oI 258, .val (.int (t' &&& (255 : Int32))), oI 129, oI 3, .val (.long (255 : Int64)), .second, oI 1, oI 1] [])) (fun t k => XS.istore X0.here hx rfl (hb hby d4_154) rfl  (l' := #[.val (.ref a), oI 0, oI 258, .val (.int (t' &&& (255 : Int32))), oI 129, oI 3, .val (.long (255 : Int64)), .second, oI 1, oI 1]) rfl k) ?_
  refine own_st (fr' := (mkF m 158 #[.val (.ref a), oI 0, oI 258, .val (.int (t' &&& (255 : Int32))), oI 129, oI 3, .val (.long (255 : Int64)), .second, oI 1, oI 1] [(.long (255 : Int64))])) (fun t k => XS.lload X0.here hx rfl (hb hby d4_156) rfl  k) ?_
  refine own_st (fr' := (mkF m 159 #[.val (.ref a), oI 0, oI 258, .val (.int (t' &&& (255 : Int32))), oI 129, oI 3, .val (.long (255 : Int64)), .second, oI 1, oI 1] [(.int 258), (.long (255 : Int64))])) (fun t k => XS.iloadN X0.here hx rfl (hb hby d4_158) rfl  k) ?_
  refine own_st (fr' := (mkF m 161 #[.val (.ref a), oI 0, oI 258, .val (.int (t' &&& (255 : Int32))), oI 129, oI 3, .val (.long (255 : Int64)), .second, oI 1, oI 1] [(.int 3), (.int 258), (.long (255 : Int64))])) (fun t k => XS.iload X0.here hx rfl (hb hby d4_159) rfl  k) ?_
  refine own_st (fr' := (mkF m 162 #[.val (.ref a), oI 0, oI 258, .val (.int (t' &&& (255 : Int32))), oI 129, oI 3, .val (.long (255 : Int64)), .second, oI 1, oI 1] [(.int 255), (.long (255 : Int64))])) (fun t k => XS.isub X0.here hx rfl (hb hby d4_161) rfl k) ?_
  refine own_st (fr' := (mkF m 163 #[.val (.ref a), oI 0, oI 258, .val (.int (t' &&& (255 : Int32))), oI 129, oI 3, .val (.long (255 : Int64)), .second, oI 1, oI 1] [(.long (255 : Int64)), (.long (255 : Int64))])) (fun t k => XS.i2l X0.here hx rfl (hb hby d4_162) rfl k) ?_
  refine own_st (fr' := (mkF m 164 #[.val (.ref a), oI 0, oI 258, .val (.int (t' &&& (255 : Int32))), oI 129, oI 3, .val (.long (255 : Int64)), .second, oI 1, oI 1] [(.int (lcmpW (255 : Int64) (255 : Int64)))])) (fun t k => XS.lcmp X0.here hx rfl (hb hby d4_163) rfl k) ?_
  refine own_st (fr' := (mkF m 177 #[.val (.ref a), oI 0, oI 258, .val (.int (t' &&& (255 : Int32))), oI 129, oI 3, .val (.long (255 : Int64)), .second, oI 1, oI 1] [])) (fun t k => XS.ifYes X0.here hx rfl (pc0 := 164) (pc' := 177) rfl (hb hby d4_164) rfl (own_fgtL (x := (255 : Int64)) (y := (255 : Int64)) (show ¬ 255 < 255 from by decide)).2 (by decide) (by decide) k) ?_
  obtain ⟨T82, h82, X82, e82, E82, A82, D82, -, st82⟩ := newO X0 hx hZ hown (hw _ (List.mem_of_getElem? (i := 15) rfl)) (hw _ (List.mem_of_getElem? (i := 16) rfl)) (hw _ (List.mem_of_getElem? (i := 10) rfl)) e0 (g := (mkF m 177 #[.val (.ref a), oI 0, oI 258, .val (.int (t' &&& (255 : Int32))), oI 129, oI 3, .val (.long (255 : Int64)), .second, oI 1, oI 1] [])) rfl (hb hby d4_177) (by decide) (by decide)
  obtain ⟨b82, g82⟩ : ∃ z, z = h0.size := ⟨_, rfl⟩
  rw [← g82] at A82 D82 st82
  have lt82_a : a < b82 := Nat.lt_of_lt_of_eq VA.lt g82.symm
  have ne82_a : a ≠ b82 := Nat.ne_of_lt lt82_a
  have ge_b82 : n0 ≤ b82 := Nat.le_trans Z0 (Nat.le_of_eq g82.symm)
  have sz_b82 : h0.size ≤ b82 := Nat.le_trans (Nat.le_refl _) (Nat.le_of_eq g82.symm)
  have F82_bytes : Fld Z h82 b82 "com/example/linkvouch/linkvouch/apk/Der" "bytes" "[B" .null := D82 (Or.inr (hw _ (List.mem_of_getElem? (i := 24) rfl))) (ty := (.array .byte)) (by decide)
  have F82_tag : Fld Z h82 b82 "com/example/linkvouch/linkvouch/apk/Der" "tag" "I" (.int 0) := D82 (Or.inr (hw _ (List.mem_of_getElem? (i := 26) rfl))) (ty := .int) (by decide)
  have F82_start : Fld Z h82 b82 "com/example/linkvouch/linkvouch/apk/Der" "start" "I" (.int 0) := D82 (Or.inr (hw _ (List.mem_of_getElem? (i := 28) rfl))) (ty := .int) (by decide)
  have F82_contentStart : Fld Z h82 b82 "com/example/linkvouch/linkvouch/apk/Der" "contentStart" "I" (.int 0) := D82 (Or.inr (hw _ (List.mem_of_getElem? (i := 30) rfl))) (ty := .int) (by decide)
  have F82_end : Fld Z h82 b82 "com/example/linkvouch/linkvouch/apk/Der" "end" "I" (.int 0) := D82 (Or.inr (hw _ (List.mem_of_getElem? (i := 32) rfl))) (ty := .int) (by decide)
  refine own_st (fr' := (mkF m 180 #[.val (.ref a), oI 0, oI 258, .val (.int (t' &&& (255 : Int32))), oI 129, oI 3, .val (.long (255 : Int64)), .second, oI 1, oI 1] [(.ref b82)])) st82 ?_
  refine own_st (fr' := (mkF m 181 #[.val (.ref a), oI 0, oI 258, .val (.int (t' &&& (255 : Int32))), oI 129, oI 3, .val (.long (255 : Int64)), .second, oI 1, oI 1] [(.ref b82), (.ref b82)])) (fun t k => XS.dup X82.here hx rfl (hb hby d4_180) rfl rfl k) ?_
  refine own_st (fr' := (mkF m 182 #[.val (.ref a), oI 0, oI 258, .val (.int (t' &&& (255 : Int32))), oI 129, oI 3, .val (.long (255 : Int64)), .second, oI 1, oI 1] [(.ref a), (.ref b82), (.ref b82)])) (fun t k => XS.aloadN X82.here hx rfl (hb hby d4_181) rfl rfl k) ?_
  refine own_st (fr' := (mkF m 183 #[.val (.ref a), oI 0, oI 258, .val (.int (t' &&& (255 : Int32))), oI 129, oI 3, .val (.long (255 : Int64)), .second, oI 1, oI 1] [(.int (t' &&& (255 : Int32))), (.ref a), (.ref b82), (.ref b82)])) (fun t k => XS.iloadN X82.here hx rfl (hb hby d4_182) rfl  k) ?_
  refine own_st (fr' := (mkF m 184 #[.val (.ref a), oI 0, oI 258, .val (.int (t' &&& (255 : Int32))), oI 129, oI 3, .val (.long (255 : Int64)), .second, oI 1, oI 1] [(.int 0), (.int (t' &&& (255 : Int32))), (.ref a), (.ref b82), (.ref b82)])) (fun t k => XS.iloadN X82.here hx rfl (hb hby d4_183) rfl  k) ?_
  refine own_st (fr' := (mkF m 186 #[.val (.ref a), oI 0, oI 258, .val (.int (t' &&& (255 : Int32))), oI 129, oI 3, .val (.long (255 : Int64)), .second, oI 1, oI 1] [(.int 3), (.int 0), (.int (t' &&& (255 : Int32))), (.ref a), (.ref b82), (.ref b82)])) (fun t k => XS.iload X82.here hx rfl (hb hby d4_184) rfl  k) ?_
  refine own_st (fr' := (mkF m 188 #[.val (.ref a), oI 0, oI 258, .val (.int (t' &&& (255 : Int32))), oI 129, oI 3, .val (.long (255 : Int64)), .second, oI 1, oI 1] [(.int 3), (.int 3), (.int 0), (.int (t' &&& (255 : Int32))), (.ref a), (.ref b82), (.ref b82)])) (fun t k => XS.iload X82.here hx rfl (hb hby d4_186) rfl  k) ?_
  refine own_st (fr' := (mkF m 190 #[.val (.ref a), oI 0, oI 258, .val (.int (t' &&& (255 : Int32))), oI 129, oI 3, .val (.long (255 : Int64)), .second, oI 1, oI 1] [(.long (255 : Int64)), (.int 3), (.int 3), (.int 0), (.int (t' &&& (255 : Int32))), (.ref a), (.ref b82), (.ref b82)])) (fun t k => XS.lload X82.here hx rfl (hb hby d4_188) rfl  k) ?_
  refine own_st (fr' := (mkF m 191 #[.val (.ref a), oI 0, oI 258, .val (.int (t' &&& (255 : Int32))), oI 129, oI 3, .val (.long (255 : Int64)), .second, oI 1, oI 1] [(.int 255), (.int 3), (.int 3), (.int 0), (.int (t' &&& (255 : Int32))), (.ref a), (.ref b82), (.ref b82)])) (fun t k => XS.l2i X82.here hx rfl (hb hby d4_190) rfl k) ?_
  refine own_st (fr' := (mkF m 192 #[.val (.ref a), oI 0, oI 258, .val (.int (t' &&& (255 : Int32))), oI 129, oI 3, .val (.long (255 : Int64)), .second, oI 1, oI 1] [(.int 258), (.int 3), (.int 0), (.int (t' &&& (255 : Int32))), (.ref a), (.ref b82), (.ref b82)])) (fun t k => XS.iadd X82.here hx rfl (hb hby d4_191) rfl k) ?_
  refine own_callN X82 hx hZ (y := (⟨"com/example/linkvouch/linkvouch/apk/Der", "<init>", "([BIIII)V"⟩ : MethodName)) hown rfl (hw _ (List.mem_of_getElem? (i := 17) rfl)) (hw _ (List.mem_of_getElem? (i := 18) rfl)) (hw _ (List.mem_of_getElem? (i := 10) rfl)) (hw _ (List.mem_of_getElem? (i := 19) rfl)) (by decide) (a := b82) (argsL := [(.ref a), (.int (t' &&& (255 : Int32))), (.int 0), (.int 3), (.int 258)]) (rest := [(.ref b82)]) (W := 1) (rm_dinit l Z a0 hw [] b82 a (t' &&& (255 : Int32)) (0 : Int32) (3 : Int32) (258 : Int32) h82 n0 (Nat.le_trans Z0 E82.1) F82_bytes F82_tag F82_start F82_contentStart F82_end A82 ge_b82) e82 (by rw [hml]; rfl) (lenOf pd_3 rfl) rfl (Nat.le_of_eq rfl) (hb hby d4_192) (by decide) (by decide) (by decide) (by decide) ?_
  intro v83 T83 L83 X83 hQ83
  obtain ⟨rfl, Nq83, K83, Fc83_0, Fc83_1, Fc83_2, Fc83_3, Fc83_4⟩ := hQ83
  have N83 := Fr.app N0 Nq83
  exact own_retA X83 hx hlk hret rfl rfl (hb hby d4_195) (by decide) (by decide) (⟨⟨b82, rfl, sz_b82, (A82.keep K83), Fc83_0, Fc83_1, Fc83_2, Fc83_3, Fc83_4⟩, N83, (Keep.trans (Keep.ext (Keep.refl h0 []) E82) K83 (allS (Or.inr sz_b82) all0))⟩)
theorem ef_parse5 (m : MethodId) (a : Addr) : entryFrame m #[(.ref a)] 2 = mkF m 0 #[.val (.ref a), .unset] [] := by first | (simp [entryFrame, mkF, argsToLocals, Value.category, maxLocals]; done) | rfl
def Q_parse5 (Z : State) (a : Addr) (t' : Int32) (f : Nat → Value) (h0 : Heap) (n0 : Nat) : Option Value → Heap → List Loc → Prop := fun v h L => (∃ d : Addr, v = some (.ref d) ∧ h0.size ≤ d ∧ Exa Z h d "com/example/linkvouch/linkvouch/apk/Der" ∧ Fld Z h d "com/example/linkvouch/linkvouch/apk/Der" "bytes" "[B" (.ref a) ∧ Fld Z h d "com/example/linkvouch/linkvouch/apk/Der" "tag" "I" (.int (t' &&& 255)) ∧ Fld Z h d "com/example/linkvouch/linkvouch/apk/Der" "start" "I" (.int 0) ∧ Fld Z h d "com/example/linkvouch/linkvouch/apk/Der" "contentStart" "I" (.int 3) ∧ Fld Z h d "com/example/linkvouch/linkvouch/apk/Der" "end" "I" (.int 258)) ∧ Fr n0 L ∧ Keep h0 h []
set_option maxRecDepth 65536 in
set_option maxHeartbeats 40000000 in
theorem rm_parse5 (l : Launch) (Z : State) (a0 : Array Value) (hw : ∀ d ∈ tables_1, d.before a0 Z = true) (ws : List Jvm.Cond) (a : Addr) (t' : Int32) (f : Nat → Value) (h0 : Heap) (n0 : Nat) (Z0 : n0 ≤ h0.size) (VA : own_A Z h0 a .byte 258 f) (h_0 : f 0 = .int t') (h_1 : f 1 = .int (-127)) (h_2 : f 2 = .int (-1)) (htag : ¬ ((t' &&& 255) &&& 31).toInt = 31) :
    MetFree l (⟨"com/example/linkvouch/linkvouch/apk/Der", "parse", "([B)Lcom/example/linkvouch/linkvouch/apk/Der;"⟩ : MethodName) (head1 (Jvm.Cond.code (⟨"com/example/linkvouch/linkvouch/apk/Der", "parse", "([B)Lcom/example/linkvouch/linkvouch/apk/Der;"⟩ : MethodName) prog_30_method_2_code 2 (some (.object "com/example/linkvouch/linkvouch/apk/Der")) :: ws) ({ frames := 3, cells := 1, slots := 5, locals := 70 } : Room)) (fun aX U => aX = #[(.ref a)] ∧ Z.Warmed39 U.vm ∧ U.heap = h0) (fun _ _ _ _ _ => True) (fun _ U o U' => ∃ v L, o = .returned v ∧ (Q_parse5 Z a t' f h0 n0) v U'.heap L ∧ FrameEnd U o U' L ({ frames := 3, cells := 1, slots := 5, locals := 70 } : Room).cells ({ frames := 3, cells := 1, slots := 5, locals := 70 } : Room).slots) := by
  refine own_met (Q := (Q_parse5 Z a t' f h0 n0)) (plainFor_of_name (x := (⟨"com/example/linkvouch/linkvouch/apk/Der", "parse", "([B)Lcom/example/linkvouch/linkvouch/apk/Der;"⟩ : MethodName)) pn_1) (fun m => ef_parse5 m a) ?_
  intro p e s m below meth cD s₁ hx hby hml hret hlk hZ hown hnm X0 e0 hs0
  have hown : s.vm.findClass "com/example/linkvouch/linkvouch/apk/Der" = some m.cls := hown
  have N0 := Fr.nil n0
  refine own_st (fr' := (mkF m 1 #[.val (.ref a), .unset] [(.ref a)])) (fun t k => XS.aloadN X0.here hx rfl (hb hby d3_0) rfl rfl k) ?_
  refine own_st (fr' := (mkF m 2 #[.val (.ref a), .unset] [(.int 0), (.ref a)])) (fun t k => XS.iconst X0.here hx rfl (hb hby d3_1) k) ?_
  refine own_st (fr' := (mkF m 3 #[.val (.ref a), .unset] [(.ref a), (.int 0), (.ref a)])) (fun t k => XS.aloadN X0.here hx rfl (hb hby d3_2) rfl rfl k) ?_
  refine own_alen X0 hx hZ e0 VA (hb hby d3_3) ?_
  refine own_callS X0 hx hZ (y := (⟨"com/example/linkvouch/linkvouch/apk/Der", "read", "([BII)Lcom/example/linkvouch/linkvouch/apk/Der;"⟩ : MethodName)) hown (hw _ (List.mem_of_getElem? (i := 12) rfl)) (hw _ (List.mem_of_getElem? (i := 13) rfl)) (hw _ (List.mem_of_getElem? (i := 10) rfl)) (hw _ (List.mem_of_getElem? (i := 14) rfl)) (by decide) (argsL := [(.ref a), (.int 0), (.int 258)]) (rest := []) (W := 0) (rm_read5 l Z a0 hw [] a t' f h0 n0 Z0 VA h_0 h_1 h_2 htag) e0 (by rw [hml]; rfl) (lenOf pd_4 rfl) rfl (Nat.le_of_eq rfl) (hb hby d3_4) (by decide) (by decide) (by decide) (by decide) ?_
  intro v84 T84 L84 X84 hQ84
  obtain ⟨⟨d, rfl, hd0, Ed, Fd0, Fd1, Fd2, Fd3, Fd4⟩, Nq84, K84⟩ := hQ84
  have N84 := Fr.app N0 Nq84
  refine own_st (fr' := (mkF m 8 #[.val (.ref a), .val (.ref d)] [])) (fun t k => XS.astoreN X84.here hx rfl (hb hby d3_7) rfl rfl (l' := #[.val (.ref a), .val (.ref d)]) rfl k) ?_
  refine own_st (fr' := (mkF m 9 #[.val (.ref a), .val (.ref d)] [(.ref d)])) (fun t k => XS.aloadN X84.here hx rfl (hb hby d3_8) rfl rfl k) ?_
  obtain ⟨T85, X85, e85, st85⟩ := getF X84 hx hZ hown (host := "") (Or.inl (hw _ (List.mem_of_getElem? (i := 31) rfl))) Via.refl rfl Fd4 (g := (mkF m 9 #[.val (.ref a), .val (.ref d)] [(.ref d)])) rfl rfl (hb hby d3_9)
  refine own_st (fr' := (mkF m 12 #[.val (.ref a), .val (.ref d)] [(.int 258)])) st85 ?_
  refine own_st (fr' := (mkF m 13 #[.val (.ref a), .val (.ref d)] [(.ref a), (.int 258)])) (fun t k => XS.aloadN X85.here hx rfl (hb hby d3_12) rfl rfl k) ?_
  refine own_alen X85 hx hZ e85 (VA.keep K84 nin0) (hb hby d3_13) ?_
  refine own_st (fr' := (mkF m 27 #[.val (.ref a), .val (.ref d)] [])) (fun t k => XS.icmpYes X85.here hx rfl (pc0 := 14) (pc' := 27) rfl (hb hby d3_14) rfl (own_teq (x := (258 : Int32)) (y := (258 : Int32)) (show 258 = 258 from by decide)).1 (by decide) (by decide) k) ?_
  refine own_st (fr' := (mkF m 28 #[.val (.ref a), .val (.ref d)] [(.ref d)])) (fun t k => XS.aloadN X85.here hx rfl (hb hby d3_27) rfl rfl k) ?_
  exact own_retA X85 hx hlk hret rfl rfl (hb hby d3_28) (by decide) (by decide) (by rw [e85]; exact ⟨⟨d, rfl, hd0, Ed, Fd0, Fd1, Fd2, Fd3, Fd4⟩, N84, (Keep.trans (Keep.refl h0 []) K84 all0)⟩)
theorem ef_cont5 (m : MethodId) (d : Addr) : entryFrame m #[(.ref d)] 1 = mkF m 0 #[.val (.ref d)] [] := by first | (simp [entryFrame, mkF, argsToLocals, Value.category, maxLocals]; done) | rfl
def Q_cont5 (Z : State) (d : Addr) (a : Addr) (f : Nat → Value) (h0 : Heap) (n0 : Nat) : Option Value → Heap → List Loc → Prop := fun v h L => (∃ (r : Addr) (g : Nat → Value), v = some (.ref r) ∧ h0.size ≤ r ∧ own_A Z h r .byte 255 g ∧ ∀ i : Nat, i < 255 → g i = f (3 + i)) ∧ Fr n0 L ∧ Keep h0 h []
set_option maxRecDepth 65536 in
set_option maxHeartbeats 40000000 in
theorem rm_cont5 (l : Launch) (Z : State) (a0 : Array Value) (hw : ∀ d ∈ tables_1, d.before a0 Z = true) (ws : List Jvm.Cond) (d : Addr) (a : Addr) (f : Nat → Value) (h0 : Heap) (n0 : Nat) (Z0 : n0 ≤ h0.size) (F_bytes : Fld Z h0 d "com/example/linkvouch/linkvouch/apk/Der" "bytes" "[B" (.ref a)) (VA : own_A Z h0 a .byte 258 f) (EA : Exa Z h0 a "[B") (F_end : Fld Z h0 d "com/example/linkvouch/linkvouch/apk/Der" "end" "I" (.int 258)) (F_contentStart : Fld Z h0 d "com/example/linkvouch/linkvouch/apk/Der" "contentStart" "I" (.int 3)) :
    MetFree l (⟨"com/example/linkvouch/linkvouch/apk/Der", "content", "()[B"⟩ : MethodName) (head1 (Jvm.Cond.code (⟨"com/example/linkvouch/linkvouch/apk/Der", "content", "()[B"⟩ : MethodName) prog_30_method_9_code 1 (some (.array .byte)) :: ws) ({ frames := 3, cells := 1, slots := 304, locals := 110 } : Room)) (fun aX U => aX = #[(.ref d)] ∧ Z.Warmed39 U.vm ∧ U.heap = h0) (fun _ _ _ _ _ => True) (fun _ U o U' => ∃ v L, o = .returned v ∧ (Q_cont5 Z d a f h0 n0) v U'.heap L ∧ FrameEnd U o U' L ({ frames := 3, cells := 1, slots := 304, locals := 110 } : Room).cells ({ frames := 3, cells := 1, slots := 304, locals := 110 } : Room).slots) := by
  refine own_met (Q := (Q_cont5 Z d a f h0 n0)) (plainFor_of_name (x := (⟨"com/example/linkvouch/linkvouch/apk/Der", "content", "()[B"⟩ : MethodName)) pn_1) (fun m => ef_cont5 m d) ?_
  intro p e s m below meth cD s₁ hx hby hml hret hlk hZ hown hnm X0 e0 hs0
  have hown : s.vm.findClass "com/example/linkvouch/linkvouch/apk/Der" = some m.cls := hown
  have N0 := Fr.nil n0
  refine own_st (fr' := (mkF m 1 #[.val (.ref d)] [(.ref d)])) (fun t k => XS.aloadN X0.here hx rfl (hb hby d7_0) rfl rfl k) ?_
  obtain ⟨T86, X86, e86, st86⟩ := getF X0 hx hZ hown (host := "") (Or.inl (hw _ (List.mem_of_getElem? (i := 23) rfl))) Via.refl e0 F_bytes (g := (mkF m 1 #[.val (.ref d)] [(.ref d)])) rfl rfl (hb hby d7_1)
  refine own_st (fr' := (mkF m 4 #[.val (.ref d)] [(.ref a)])) st86 ?_
  refine own_st (fr' := (mkF m 5 #[.val (.ref d)] [(.ref d), (.ref a)])) (fun t k => XS.aloadN X86.here hx rfl (hb hby d7_4) rfl rfl k) ?_
  obtain ⟨T87, X87, e87, st87⟩ := getF X86 hx hZ hown (host := "") (Or.inl (hw _ (List.mem_of_getElem? (i := 29) rfl))) Via.refl e86 F_contentStart (g := (mkF m 5 #[.val (.ref d)] [(.ref d), (.ref a)])) rfl rfl (hb hby d7_5)
  refine own_st (fr' := (mkF m 8 #[.val (.ref d)] [(.int 3), (.ref a)])) st87 ?_
  refine own_st (fr' := (mkF m 9 #[.val (.ref d)] [(.ref d), (.int 3), (.ref a)])) (fun t k => XS.aloadN X87.here hx rfl (hb hby d7_8) rfl rfl k) ?_
  obtain ⟨T88, X88, e88, st88⟩ := getF X87 hx hZ hown (host := "") (Or.inl (hw _ (List.mem_of_getElem? (i := 31) rfl))) Via.refl e87 F_end (g := (mkF m 9 #[.val (.ref d)] [(.ref d), (.int 3), (.ref a)])) rfl rfl (hb hby d7_9)
  refine own_st (fr' := (mkF m 12 #[.val (.ref d)] [(.int 258), (.int 3), (.ref a)])) st88 ?_
  refine own_callS X88 hx hZ (y := (⟨"java/util/Arrays", "copyOfRange", "([BII)[B"⟩ : MethodName)) hown (hw _ (List.mem_of_getElem? (i := 38) rfl)) (hw _ (List.mem_of_getElem? (i := 39) rfl)) (hw _ (List.mem_of_getElem? (i := 40) rfl)) (hw _ (List.mem_of_getElem? (i := 41) rfl)) (by decide) (argsL := [(.ref a), (.int 3), (.int 258)]) (rest := []) (W := 0) (rm_cr1 l Z a0 hw [] a (3 : Int32) (258 : Int32) (258 : Int32) f h0 n0 Z0 VA EA ⟨by decide, by decide, by decide⟩ (by decide) (by decide)) e88 (by rw [hml]; rfl) (lenOf pd_2 rfl) rfl (Nat.le_of_eq rfl) (hb hby d7_12) (by decide) (by decide) (by decide) (by decide) ?_
  intro v89 T89 L89 X89 hQ89
  obtain ⟨⟨r, g, nl, rfl, hr, hnl, VR, hg⟩, Nq89, K89⟩ := hQ89
  have N89 := Fr.app N0 Nq89
  have enl : nl = (255 : Int32) := Int32.toInt_inj.mp (hnl.trans (by decide))
  subst enl
  exact own_retA X89 hx hlk hret rfl rfl (hb hby d7_15) (by decide) (by decide) (⟨⟨r, g, rfl, hr, VR, fun i hi => hg i (by show (i : Int) < (258 : Int) - 3; omega)⟩, N89, K89⟩)
theorem ef_enc5 (m : MethodId) (d : Addr) : entryFrame m #[(.ref d)] 1 = mkF m 0 #[.val (.ref d)] [] := by first | (simp [entryFrame, mkF, argsToLocals, Value.category, maxLocals]; done) | rfl
def Q_enc5 (Z : State) (d : Addr) (a : Addr) (f : Nat → Value) (h0 : Heap) (n0 : Nat) : Option Value → Heap → List Loc → Prop := fun v h L => (∃ r : Addr, v = some (.ref r) ∧ h0.size ≤ r ∧ own_A Z h r .byte 258 f) ∧ Fr n0 L ∧ Keep h0 h []
set_option maxRecDepth 65536 in
set_option maxHeartbeats 40000000 in
theorem rm_enc5 (l : Launch) (Z : State) (a0 : Array Value) (hw : ∀ d ∈ tables_1, d.before a0 Z = true) (ws : List Jvm.Cond) (d : Addr) (a : Addr) (f : Nat → Value) (h0 : Heap) (n0 : Nat) (Z0 : n0 ≤ h0.size) (F_bytes : Fld Z h0 d "com/example/linkvouch/linkvouch/apk/Der" "bytes" "[B" (.ref a)) (VA : own_A Z h0 a .byte 258 f) (EA : Exa Z h0 a "[B") (F_end : Fld Z h0 d "com/example/linkvouch/linkvouch/apk/Der" "end" "I" (.int 258)) (F_start : Fld Z h0 d "com/example/linkvouch/linkvouch/apk/Der" "start" "I" (.int 0)) :
    MetFree l (⟨"com/example/linkvouch/linkvouch/apk/Der", "encoded", "()[B"⟩ : MethodName) (head1 (Jvm.Cond.code (⟨"com/example/linkvouch/linkvouch/apk/Der", "encoded", "()[B"⟩ : MethodName) prog_30_method_8_code 1 (some (.array .byte)) :: ws) ({ frames := 2, cells := 1, slots := 304, locals := 60 } : Room)) (fun aX U => aX = #[(.ref d)] ∧ Z.Warmed39 U.vm ∧ U.heap = h0) (fun _ _ _ _ _ => True) (fun _ U o U' => ∃ v L, o = .returned v ∧ (Q_enc5 Z d a f h0 n0) v U'.heap L ∧ FrameEnd U o U' L ({ frames := 2, cells := 1, slots := 304, locals := 60 } : Room).cells ({ frames := 2, cells := 1, slots := 304, locals := 60 } : Room).slots) := by
  refine own_met (Q := (Q_enc5 Z d a f h0 n0)) (plainFor_of_name (x := (⟨"com/example/linkvouch/linkvouch/apk/Der", "encoded", "()[B"⟩ : MethodName)) pn_1) (fun m => ef_enc5 m d) ?_
  intro p e s m below meth cD s₁ hx hby hml hret hlk hZ hown hnm X0 e0 hs0
  have hown : s.vm.findClass "com/example/linkvouch/linkvouch/apk/Der" = some m.cls := hown
  have N0 := Fr.nil n0
  refine own_st (fr' := (mkF m 1 #[.val (.ref d)] [(.ref d)])) (fun t k => XS.aloadN X0.here hx rfl (hb hby d12_0) rfl rfl k) ?_
  obtain ⟨T90, X90, e90, st90⟩ := getF X0 hx hZ hown (host := "") (Or.inl (hw _ (List.mem_of_getElem? (i := 23) rfl))) Via.refl e0 F_bytes (g := (mkF m 1 #[.val (.ref d)] [(.ref d)])) rfl rfl (hb hby d12_1)
  refine own_st (fr' := (mkF m 4 #[.val (.ref d)] [(.ref a)])) st90 ?_
  refine own_st (fr' := (mkF m 5 #[.val (.ref d)] [(.ref d), (.ref a)])) (fun t k => XS.aloadN X90.here hx rfl (hb hby d12_4) rfl rfl k) ?_
  obtain ⟨T91, X91, e91, st91⟩ := getF X90 hx hZ hown (host := "") (Or.inl (hw _ (List.mem_of_getElem? (i := 27) rfl))) Via.refl e90 F_start (g := (mkF m 5 #[.val (.ref d)] [(.ref d), (.ref a)])) rfl rfl (hb hby d12_5)
  refine own_st (fr' := (mkF m 8 #[.val (.ref d)] [(.int 0), (.ref a)])) st91 ?_
  refine own_st (fr' := (mkF m 9 #[.val (.ref d)] [(.ref d), (.int 0), (.ref a)])) (fun t k => XS.aloadN X91.here hx rfl (hb hby d12_8) rfl rfl k) ?_
  obtain ⟨T92, X92, e92, st92⟩ := getF X91 hx hZ hown (host := "") (Or.inl (hw _ (List.mem_of_getElem? (i := 31) rfl))) Via.refl e91 F_end (g := (mkF m 9 #[.val (.ref d)] [(.ref d), (.int 0), (.ref a)])) rfl rfl (hb hby d12_9)
  refine own_st (fr' := (mkF m 12 #[.val (.ref d)] [(.int 258), (.int 0), (.ref a)])) st92 ?_
  refine own_callS X92 hx hZ (y := (⟨"java/util/Arrays", "copyOfRange", "([BII)[B"⟩ : MethodName)) hown (hw _ (List.mem_of_getElem? (i := 38) rfl)) (hw _ (List.mem_of_getElem? (i := 39) rfl)) (hw _ (List.mem_of_getElem? (i := 40) rfl)) (hw _ (List.mem_of_getElem? (i := 41) rfl)) (by decide) (argsL := [(.ref a), (.int 0), (.int 258)]) (rest := []) (W := 0) (rm_cr0 l Z a0 hw [] a (258 : Int32) f h0 n0 Z0 VA EA (by decide)) e92 (by rw [hml]; rfl) (lenOf pd_2 rfl) rfl (Nat.le_of_eq rfl) (hb hby d12_12) (by decide) (by decide) (by decide) (by decide) ?_
  intro v93 T93 L93 X93 hQ93
  obtain ⟨⟨r, rfl, hr, VR⟩, Nq93, K93⟩ := hQ93
  have N93 := Fr.app N0 Nq93
  exact own_retA X93 hx hlk hret rfl rfl (hb hby d12_15) (by decide) (by decide) (⟨⟨r, rfl, hr, VR⟩, N93, K93⟩)
theorem d1_46 : decode method_3_code 46 = .ok (.iload_n 0, 1) := by decide +kernel
theorem d1_47 : decode method_3_code 47 = .ok (.bipush 6, 2) := by decide +kernel
theorem d1_49 : decode method_3_code 49 = .ok (.if_icmp .ne 7, 3) := by decide +kernel
theorem d1_52 : decode method_3_code 52 = .ok (.sipush 256, 3) := by decide +kernel
theorem d1_55 : decode method_3_code 55 = .ok (.ireturn, 1) := by decide +kernel
theorem ef_len6 (m : MethodId)  : entryFrame m #[(.int 6)] 1 = mkF m 0 #[oI 6] [] := by first | (simp [entryFrame, mkF, argsToLocals, Value.category, maxLocals]; done) | rfl
def Q_len6 (Z : State)  (h0 : Heap) (n0 : Nat) : Option Value → Heap → List Loc → Prop := fun v h L => v = some (.int 256) ∧ Fr n0 L ∧ h = h0
set_option maxRecDepth 65536 in
set_option maxHeartbeats 40000000 in
theorem rm_len6 (l : Launch) (Z : State) (a0 : Array Value) (hw : ∀ d ∈ tables_1, d.before a0 Z = true) (ws : List Jvm.Cond)  (h0 : Heap) (n0 : Nat) (Z0 : n0 ≤ h0.size)  :
    MetFree l (⟨"com/example/linkvouch/linkvouch/apk/DerParsePinLaw", "lengthOf", "(I)I"⟩ : MethodName) (head1 (Jvm.Cond.code (⟨"com/example/linkvouch/linkvouch/apk/DerParsePinLaw", "lengthOf", "(I)I"⟩ : MethodName) method_3_code 1 (some .int) :: ws) ({ frames := 0, cells := 0, slots := 0, locals := 0 } : Room)) (fun aX U => aX = #[(.int 6)] ∧ Z.Warmed39 U.vm ∧ U.heap = h0) (fun _ _ _ _ _ => True) (fun _ U o U' => ∃ v L, o = .returned v ∧ (Q_len6 Z  h0 n0) v U'.heap L ∧ FrameEnd U o U' L ({ frames := 0, cells := 0, slots := 0, locals := 0 } : Room).cells ({ frames := 0, cells := 0, slots := 0, locals := 0 } : Room).slots) := by
  refine own_met (Q := (Q_len6 Z  h0 n0)) (plainFor_of_name (x := (⟨"com/example/linkvouch/linkvouch/apk/DerParsePinLaw", "lengthOf", "(I)I"⟩ : MethodName)) pn_2) (fun m => ef_len6 m ) ?_
  intro p e s m below meth cD s₁ hx hby hml hret hlk hZ hown hnm X0 e0 hs0
  have hown : s.vm.findClass "com/example/linkvouch/linkvouch/apk/DerParsePinLaw" = some m.cls := hown
  have N0 := Fr.nil n0
  refine own_st (fr' := (mkF m 1 #[oI 6] [(.int 6)])) (fun t k => XS.iloadN X0.here hx rfl (hb hby d1_0) rfl  k) ?_
  refine own_st (fr' := (mkF m 6 #[oI 6] [])) (fun t k => XS.ifYes X0.here hx rfl (pc0 := 1) (pc' := 6) rfl (hb hby d1_1) rfl ((if0 _ _).trans (own_feq (x := (6 : Int32)) (y := (0 : Int32)) (show ¬ 6 = 0 from by decide)).2) (by decide) (by decide) k) ?_
  refine own_st (fr' := (mkF m 7 #[oI 6] [(.int 6)])) (fun t k => XS.iloadN X0.here hx rfl (hb hby d1_6) rfl  k) ?_
  refine own_st (fr' := (mkF m 8 #[oI 6] [(.int 1), (.int 6)])) (fun t k => XS.iconst X0.here hx rfl (hb hby d1_7) k) ?_
  refine own_st (fr' := (mkF m 13 #[oI 6] [])) (fun t k => XS.icmpYes X0.here hx rfl (pc0 := 8) (pc' := 13) rfl (hb hby d1_8) rfl (own_feq (x := (6 : Int32)) (y := (1 : Int32)) (show ¬ 6 = 1 from by decide)).2 (by decide) (by decide) k) ?_
  refine own_st (fr' := (mkF m 14 #[oI 6] [(.int 6)])) (fun t k => XS.iloadN X0.here hx rfl (hb hby d1_13) rfl  k) ?_
  refine own_st (fr' := (mkF m 15 #[oI 6] [(.int 2), (.int 6)])) (fun t k => XS.iconst X0.here hx rfl (hb hby d1_14) k) ?_
  refine own_st (fr' := (mkF m 20 #[oI 6] [])) (fun t k => XS.icmpYes X0.here hx rfl (pc0 := 15) (pc' := 20) rfl (hb hby d1_15) rfl (own_feq (x := (6 : Int32)) (y := (2 : Int32)) (show ¬ 6 = 2 from by decide)).2 (by decide) (by decide) k) ?_
  refine own_st (fr' := (mkF m 21 #[oI 6] [(.int 6)])) (fun t k => XS.iloadN X0.here hx rfl (hb hby d1_20) rfl  k) ?_
  refine own_st (fr' := (mkF m 22 #[oI 6] [(.int 3), (.int 6)])) (fun t k => XS.iconst X0.here hx rfl (hb hby d1_21) k) ?_
  refine own_st (fr' := (mkF m 28 #[oI 6] [])) (fun t k => XS.icmpYes X0.here hx rfl (pc0 := 22) (pc' := 28) rfl (hb hby d1_22) rfl (own_feq (x := (6 : Int32)) (y := (3 : Int32)) (show ¬ 6 = 3 from by decide)).2 (by decide) (by decide) k) ?_
  refine own_st (fr' := (mkF m 29 #[oI 6] [(.int 6)])) (fun t k => XS.iloadN X0.here hx rfl (hb hby d1_28) rfl  k) ?_
  refine own_st (fr' := (mkF m 30 #[oI 6] [(.int 4), (.int 6)])) (fun t k => XS.iconst X0.here hx rfl (hb hby d1_29) k) ?_
  refine own_st (fr' := (mkF m 37 #[oI 6] [])) (fun t k => XS.icmpYes X0.here hx rfl (pc0 := 30) (pc' := 37) rfl (hb hby d1_30) rfl (own_feq (x := (6 : Int32)) (y := (4 : Int32)) (show ¬ 6 = 4 from by decide)).2 (by decide) (by decide) k) ?_
  refine own_st (fr' := (mkF m 38 #[oI 6] [(.int 6)])) (fun t k => XS.iloadN X0.here hx rfl (hb hby d1_37) rfl  k) ?_
  refine own_st (fr' := (mkF m 39 #[oI 6] [(.int 5), (.int 6)])) (fun t k => XS.iconst X0.here hx rfl (hb hby d1_38) k) ?_
  refine own_st (fr' := (mkF m 46 #[oI 6] [])) (fun t k => XS.icmpYes X0.here hx rfl (pc0 := 39) (pc' := 46) rfl (hb hby d1_39) rfl (own_feq (x := (6 : Int32)) (y := (5 : Int32)) (show ¬ 6 = 5 from by decide)).2 (by decide) (by decide) k) ?_
  refine own_st (fr' := (mkF m 47 #[oI 6] [(.int 6)])) (fun t k => XS.iloadN X0.here hx rfl (hb hby d1_46) rfl  k) ?_
  refine own_st (fr' := (mkF m 49 #[oI 6] [(.int 6), (.int 6)])) (fun t k => XS.bipush X0.here hx rfl (hb hby d1_47) k) ?_
  refine own_st (fr' := (mkF m 52 #[oI 6] [])) (fun t k => XS.icmpNo X0.here hx rfl (hb hby d1_49) rfl (own_teq (x := (6 : Int32)) (y := (6 : Int32)) (show 6 = 6 from by decide)).2 k) ?_
  refine own_st (fr' := (mkF m 55 #[oI 6] [(.int 256)])) (fun t k => XS.sipush X0.here hx rfl (hb hby d1_52) k) ?_
  exact own_retI X0 hx hlk hret (hb hby d1_55) (by decide) (by decide) (⟨rfl, N0, e0⟩)
theorem d2_59 : decode method_2_code 59 = .ok (.iload_n 0, 1) := by decide +kernel
theorem d2_60 : decode method_2_code 60 = .ok (.bipush 6, 2) := by decide +kernel
theorem d2_62 : decode method_2_code 62 = .ok (.if_icmp .ne 9, 3) := by decide +kernel
theorem d2_65 : decode method_2_code 65 = .ok (.sipush 260, 3) := by decide +kernel
theorem d2_68 : decode method_2_code 68 = .ok (.newarray .byte, 2) := by decide +kernel
theorem d2_70 : decode method_2_code 70 = .ok (.areturn, 1) := by decide +kernel
theorem ef_alloc6 (m : MethodId)  : entryFrame m #[(.int 6)] 1 = mkF m 0 #[oI 6] [] := by first | (simp [entryFrame, mkF, argsToLocals, Value.category, maxLocals]; done) | rfl
def Q_alloc6 (Z : State)  (h0 : Heap) (n0 : Nat) : Option Value → Heap → List Loc → Prop := fun v h L => (∃ r : Addr, v = some (.ref r) ∧ h0.size ≤ r ∧ n0 ≤ r ∧ own_A Z h r .byte 260 (fun _ => .int 0) ∧ Exa Z h r "[B") ∧ Fr n0 L ∧ Keep h0 h []
set_option maxRecDepth 65536 in
set_option maxHeartbeats 40000000 in
theorem rm_alloc6 (l : Launch) (Z : State) (a0 : Array Value) (hw : ∀ d ∈ tables_1, d.before a0 Z = true) (ws : List Jvm.Cond)  (h0 : Heap) (n0 : Nat) (Z0 : n0 ≤ h0.size)  :
    MetFree l (⟨"com/example/linkvouch/linkvouch/apk/DerParsePinLaw", "alloc", "(I)[B"⟩ : MethodName) (head1 (Jvm.Cond.code (⟨"com/example/linkvouch/linkvouch/apk/DerParsePinLaw", "alloc", "(I)[B"⟩ : MethodName) method_2_code 1 (some (.array .byte)) :: ws) ({ frames := 0, cells := 1, slots := 260, locals := 0 } : Room)) (fun aX U => aX = #[(.int 6)] ∧ Z.Warmed39 U.vm ∧ U.heap = h0) (fun _ _ _ _ _ => True) (fun _ U o U' => ∃ v L, o = .returned v ∧ (Q_alloc6 Z  h0 n0) v U'.heap L ∧ FrameEnd U o U' L ({ frames := 0, cells := 1, slots := 260, locals := 0 } : Room).cells ({ frames := 0, cells := 1, slots := 260, locals := 0 } : Room).slots) := by
  refine own_met (Q := (Q_alloc6 Z  h0 n0)) (plainFor_of_name (x := (⟨"com/example/linkvouch/linkvouch/apk/DerParsePinLaw", "alloc", "(I)[B"⟩ : MethodName)) pn_2) (fun m => ef_alloc6 m ) ?_
  intro p e s m below meth cD s₁ hx hby hml hret hlk hZ hown hnm X0 e0 hs0
  have hown : s.vm.findClass "com/example/linkvouch/linkvouch/apk/DerParsePinLaw" = some m.cls := hown
  have N0 := Fr.nil n0
  refine own_st (fr' := (mkF m 1 #[oI 6] [(.int 6)])) (fun t k => XS.iloadN X0.here hx rfl (hb hby d2_0) rfl  k) ?_
  refine own_st (fr' := (mkF m 8 #[oI 6] [])) (fun t k => XS.ifYes X0.here hx rfl (pc0 := 1) (pc' := 8) rfl (hb hby d2_1) rfl ((if0 _ _).trans (own_feq (x := (6 : Int32)) (y := (0 : Int32)) (show ¬ 6 = 0 from by decide)).2) (by decide) (by decide) k) ?_
  refine own_st (fr' := (mkF m 9 #[oI 6] [(.int 6)])) (fun t k => XS.iloadN X0.here hx rfl (hb hby d2_8) rfl  k) ?_
  refine own_st (fr' := (mkF m 10 #[oI 6] [(.int 1), (.int 6)])) (fun t k => XS.iconst X0.here hx rfl (hb hby d2_9) k) ?_
  refine own_st (fr' := (mkF m 17 #[oI 6] [])) (fun t k => XS.icmpYes X0.here hx rfl (pc0 := 10) (pc' := 17) rfl (hb hby d2_10) rfl (own_feq (x := (6 : Int32)) (y := (1 : Int32)) (show ¬ 6 = 1 from by decide)).2 (by decide) (by decide) k) ?_
  refine own_st (fr' := (mkF m 18 #[oI 6] [(.int 6)])) (fun t k => XS.iloadN X0.here hx rfl (hb hby d2_17) rfl  k) ?_
  refine own_st (fr' := (mkF m 19 #[oI 6] [(.int 2), (.int 6)])) (fun t k => XS.iconst X0.here hx rfl (hb hby d2_18) k) ?_
  refine own_st (fr' := (mkF m 26 #[oI 6] [])) (fun t k => XS.icmpYes X0.here hx rfl (pc0 := 19) (pc' := 26) rfl (hb hby d2_19) rfl (own_feq (x := (6 : Int32)) (y := (2 : Int32)) (show ¬ 6 = 2 from by decide)).2 (by decide) (by decide) k) ?_
  refine own_st (fr' := (mkF m 27 #[oI 6] [(.int 6)])) (fun t k => XS.iloadN X0.here hx rfl (hb hby d2_26) rfl  k) ?_
  refine own_st (fr' := (mkF m 28 #[oI 6] [(.int 3), (.int 6)])) (fun t k => XS.iconst X0.here hx rfl (hb hby d2_27) k) ?_
  refine own_st (fr' := (mkF m 37 #[oI 6] [])) (fun t k => XS.icmpYes X0.here hx rfl (pc0 := 28) (pc' := 37) rfl (hb hby d2_28) rfl (own_feq (x := (6 : Int32)) (y := (3 : Int32)) (show ¬ 6 = 3 from by decide)).2 (by decide) (by decide) k) ?_
  refine own_st (fr' := (mkF m 38 #[oI 6] [(.int 6)])) (fun t k => XS.iloadN X0.here hx rfl (hb hby d2_37) rfl  k) ?_
  refine own_st (fr' := (mkF m 39 #[oI 6] [(.int 4), (.int 6)])) (fun t k => XS.iconst X0.here hx rfl (hb hby d2_38) k) ?_
  refine own_st (fr' := (mkF m 48 #[oI 6] [])) (fun t k => XS.icmpYes X0.here hx rfl (pc0 := 39) (pc' := 48) rfl (hb hby d2_39) rfl (own_feq (x := (6 : Int32)) (y := (4 : Int32)) (show ¬ 6 = 4 from by decide)).2 (by decide) (by decide) k) ?_
  refine own_st (fr' := (mkF m 49 #[oI 6] [(.int 6)])) (fun t k => XS.iloadN X0.here hx rfl (hb hby d2_48) rfl  k) ?_
  refine own_st (fr' := (mkF m 50 #[oI 6] [(.int 5), (.int 6)])) (fun t k => XS.iconst X0.here hx rfl (hb hby d2_49) k) ?_
  refine own_st (fr' := (mkF m 59 #[oI 6] [])) (fun t k => XS.icmpYes X0.here hx rfl (pc0 := 50) (pc' := 59) rfl (hb hby d2_50) rfl (own_feq (x := (6 : Int32)) (y := (5 : Int32)) (show ¬ 6 = 5 from by decide)).2 (by decide) (by decide) k) ?_
  refine own_st (fr' := (mkF m 60 #[oI 6] [(.int 6)])) (fun t k => XS.iloadN X0.here hx rfl (hb hby d2_59) rfl  k) ?_
  refine own_st (fr' := (mkF m 62 #[oI 6] [(.int 6), (.int 6)])) (fun t k => XS.bipush X0.here hx rfl (hb hby d2_60) k) ?_
  refine own_st (fr' := (mkF m 65 #[oI 6] [])) (fun t k => XS.icmpNo X0.here hx rfl (hb hby d2_62) rfl (own_teq (x := (6 : Int32)) (y := (6 : Int32)) (show 6 = 6 from by decide)).2 k) ?_
  refine own_st (fr' := (mkF m 68 #[oI 6] [(.int 260)])) (fun t k => XS.sipush X0.here hx rfl (hb hby d2_65) k) ?_
  refine own_newarrE X0 hx hZ (hw _ (List.mem_of_getElem? (i := 7) rfl)) e0 (hb hby d2_68) (by decide) (cap := 260) (by decide) (by decide) (by decide) (by decide) rfl (C := "[B") rfl ?_
  intro T94 h94 b94 g94 X94 e94 E94 VA94 EX94
  have V94 := own_B.new VA94
  have ge_b94 : n0 ≤ b94 := Nat.le_trans Z0 (Nat.le_of_eq g94.symm)
  have sz_b94 : h0.size ≤ b94 := Nat.le_trans (Nat.le_refl _) (Nat.le_of_eq g94.symm)
  exact own_retA X94 hx hlk hret rfl rfl (hb hby d2_70) (by decide) (by decide) (by rw [e94]; exact ⟨⟨b94, rfl, sz_b94, ge_b94, VA94, EX94⟩, N0, (Keep.ext (Keep.refl h0 []) E94)⟩)
theorem ef_read6 (m : MethodId) (a : Addr) : entryFrame m #[(.ref a), (.int 0), (.int 260)] 10 = mkF m 0 #[.val (.ref a), oI 0, oI 260, .unset, .unset, .unset, .unset, .unset, .unset, .unset] [] := by first | (simp [entryFrame, mkF, argsToLocals, Value.category, maxLocals]; done) | rfl
def Q_read6 (Z : State) (a : Addr) (t' : Int32) (f : Nat → Value) (h0 : Heap) (n0 : Nat) : Option Value → Heap → List Loc → Prop := fun v h L => (∃ d : Addr, v = some (.ref d) ∧ h0.size ≤ d ∧ Exa Z h d "com/example/linkvouch/linkvouch/apk/Der" ∧ Fld Z h d "com/example/linkvouch/linkvouch/apk/Der" "bytes" "[B" (.ref a) ∧ Fld Z h d "com/example/linkvouch/linkvouch/apk/Der" "tag" "I" (.int (t' &&& 255)) ∧ Fld Z h d "com/example/linkvouch/linkvouch/apk/Der" "start" "I" (.int 0) ∧ Fld Z h d "com/example/linkvouch/linkvouch/apk/Der" "contentStart" "I" (.int 4) ∧ Fld Z h d "com/example/linkvouch/linkvouch/apk/Der" "end" "I" (.int 260)) ∧ Fr n0 L ∧ Keep h0 h []
set_option maxRecDepth 65536 in
set_option maxHeartbeats 40000000 in
theorem rm_read6 (l : Launch) (Z : State) (a0 : Array Value) (hw : ∀ d ∈ tables_1, d.before a0 Z = true) (ws : List Jvm.Cond) (a : Addr) (t' : Int32) (f : Nat → Value) (h0 : Heap) (n0 : Nat) (Z0 : n0 ≤ h0.size) (VA : own_A Z h0 a .byte 260 f) (h_0 : f 0 = .int t') (h_1 : f 1 = .int (-126)) (h_2 : f 2 = .int (1)) (h_3 : f 3 = .int (0)) (htag : ¬ ((t' &&& 255) &&& 31).toInt = 31) :
    MetFree l (⟨"com/example/linkvouch/linkvouch/apk/Der", "read", "([BII)Lcom/example/linkvouch/linkvouch/apk/Der;"⟩ : MethodName) (head1 (Jvm.Cond.code (⟨"com/example/linkvouch/linkvouch/apk/Der", "read", "([BII)Lcom/example/linkvouch/linkvouch/apk/Der;"⟩ : MethodName) prog_30_method_3_code 10 (some (.object "com/example/linkvouch/linkvouch/apk/Der")) :: ws) ({ frames := 2, cells := 1, slots := 5, locals := 40 } : Room)) (fun aX U => aX = #[(.ref a), (.int 0), (.int 260)] ∧ Z.Warmed39 U.vm ∧ U.heap = h0) (fun _ _ _ _ _ => True) (fun _ U o U' => ∃ v L, o = .returned v ∧ (Q_read6 Z a t' f h0 n0) v U'.heap L ∧ FrameEnd U o U' L ({ frames := 2, cells := 1, slots := 5, locals := 40 } : Room).cells ({ frames := 2, cells := 1, slots := 5, locals := 40 } : Room).slots) := by
  refine own_met (Q := (Q_read6 Z a t' f h0 n0)) (plainFor_of_name (x := (⟨"com/example/linkvouch/linkvouch/apk/Der", "read", "([BII)Lcom/example/linkvouch/linkvouch/apk/Der;"⟩ : MethodName)) pn_1) (fun m => ef_read6 m a) ?_
  intro p e s m below meth cD s₁ hx hby hml hret hlk hZ hown hnm X0 e0 hs0
  have hown : s.vm.findClass "com/example/linkvouch/linkvouch/apk/Der" = some m.cls := hown
  have N0 := Fr.nil n0
  refine own_st (fr' := (mkF m 1 #[.val (.ref a), oI 0, oI 260, .unset, .unset, .unset, .unset, .unset, .unset, .unset] [(.int 260)])) (fun t k => XS.iloadN X0.here hx rfl (hb hby d4_0) rfl  k) ?_
  refine own_st (fr' := (mkF m 2 #[.val (.ref a), oI 0, oI 260, .unset, .unset, .unset, .unset, .unset, .unset, .unset] [(.int 0), (.int 260)])) (fun t k => XS.iloadN X0.here hx rfl (hb hby d4_1) rfl  k) ?_
  refine own_st (fr' := (mkF m 3 #[.val (.ref a), oI 0, oI 260, .unset, .unset, .unset, .unset, .unset, .unset, .unset] [(.int 260)])) (fun t k => XS.isub X0.here hx rfl (hb hby d4_2) rfl k) ?_
  refine own_st (fr' := (mkF m 4 #[.val (.ref a), oI 0, oI 260, .unset, .unset, .unset, .unset, .unset, .unset, .unset] [(.int 2), (.int 260)])) (fun t k => XS.iconst X0.here hx rfl (hb hby d4_3) k) ?_
  refine own_st (fr' := (mkF m 17 #[.val (.ref a), oI 0, oI 260, .unset, .unset, .unset, .unset, .unset, .unset, .unset] [])) (fun t k => XS.icmpYes X0.here hx rfl (pc0 := 4) (pc' := 17) rfl (hb hby d4_4) rfl (own_flt (x := (260 : Int32)) (y := (2 : Int32)) (show ¬ 260 < 2 from by decide)).2.1 (by decide) (by decide) k) ?_
  refine own_st (fr' := (mkF m 18 #[.val (.ref a), oI 0, oI 260, .unset, .unset, .unset, .unset, .unset, .unset, .unset] [(.ref a)])) (fun t k => XS.aloadN X0.here hx rfl (hb hby d4_17) rfl rfl k) ?_
  refine own_st (fr' := (mkF m 19 #[.val (.ref a), oI 0, oI 260, .unset, .unset, .unset, .unset, .unset, .unset, .unset] [(.int 0), (.ref a)])) (fun t k => XS.iloadN X0.here hx rfl (hb hby d4_18) rfl  k) ?_
  refine own_baload (j := (0 : Int32)) X0 hx hZ e0 VA (by decide) (by decide) (v := (.int t')) (h_0) (hb hby d4_19) ?_
  refine own_st (fr' := (mkF m 23 #[.val (.ref a), oI 0, oI 260, .unset, .unset, .unset, .unset, .unset, .unset, .unset] [(.int 255), (.int t')])) (fun t k => XS.sipush X0.here hx rfl (hb hby d4_20) k) ?_
  refine own_st (fr' := (mkF m 24 #[.val (.ref a), oI 0, oI 260, .unset, .unset, .unset, .unset, .unset, .unset, .unset] [(.int (t' &&& (255 : Int32)))])) (fun t k => XS.iand X0.here hx rfl (hb hby d4_23) rfl k) ?_
  refine own_st (fr' := (mkF m 25 #[.val (.ref a), oI 0, oI 260, .val (.int (t' &&& (255 : Int32))), .unset, .unset, .unset, .unset, .unset, .unset] [])) (fun t k => XS.istoreN X0.here hx rfl (hb hby d4_24) rfl  (l' := #[.val (.ref a), oI 0, oI 260, .val (.int (t' &&& (255 : Int32))), .unset, .unset, .unset, .unset, .unset, .unset]) rfl k) ?_
  refine own_st (fr' := (mkF m 26 #[.val (.ref a), oI 0, oI 260, .val (.int (t' &&& (255 : Int32))), .unset, .unset, .unset, .unset, .unset, .unset] [(.int (t' &&& (255 : Int32)))])) (fun t k => XS.iloadN X0.here hx rfl (hb hby d4_25) rfl  k) ?_
  refine own_st (fr' := (mkF m 28 #[.val (.ref a), oI 0, oI 260, .val (.int (t' &&& (255 : Int32))), .unset, .unset, .unset, .unset, .unset, .unset] [(.int 31), (.int (t' &&& (255 : Int32)))])) (fun t k => XS.bipush X0.here hx rfl (hb hby d4_26) k) ?_
  refine own_st (fr' := (mkF m 29 #[.val (.ref a), oI 0, oI 260, .val (.int (t' &&& (255 : Int32))), .unset, .unset, .unset, .unset, .unset, .unset] [(.int ((t' &&& (255 : Int32)) &&& (31 : Int32)))])) (fun t k => XS.iand X0.here hx rfl (hb hby d4_28) rfl k) ?_
  refine own_st (fr' := (mkF m 31 #[.val (.ref a), oI 0, oI 260, .val (.int (t' &&& (255 : Int32))), .unset, .unset, .unset, .unset, .unset, .unset] [(.int 31), (.int ((t' &&& (255 : Int32)) &&& (31 : Int32)))])) (fun t k => XS.bipush X0.here hx rfl (hb hby d4_29) k) ?_
  refine own_st (fr' := (mkF m 44 #[.val (.ref a), oI 0, oI 260, .val (.int (t' &&& (255 : Int32))), .unset, .unset, .unset, .unset, .unset, .unset] [])) (fun t k => XS.icmpYes X0.here hx rfl (pc0 := 31) (pc' := 44) rfl (hb hby d4_31) rfl (own_feq (x := ((t' &&& (255 : Int32)) &&& (31 : Int32))) (y := (31 : Int32)) (show ¬ ((t' &&& (255 : Int32)) &&& (31 : Int32)).toInt = 31 from htag)).2 (by decide) (by decide) k) ?_
  refine own_st (fr' := (mkF m 45 #[.val (.ref a), oI 0, oI 260, .val (.int (t' &&& (255 : Int32))), .unset, .unset, .unset, .unset, .unset, .unset] [(.ref a)])) (fun t k => XS.aloadN X0.here hx rfl (hb hby d4_44) rfl rfl k) ?_
  refine own_st (fr' := (mkF m 46 #[.val (.ref a), oI 0, oI 260, .val (.int (t' &&& (255 : Int32))), .unset, .unset, .unset, .unset, .unset, .unset] [(.int 0), (.ref a)])) (fun t k => XS.iloadN X0.here hx rfl (hb hby d4_45) rfl  k) ?_
  refine own_st (fr' := (mkF m 47 #[.val (.ref a), oI 0, oI 260, .val (.int (t' &&& (255 : Int32))), .unset, .unset, .unset, .unset, .unset, .unset] [(.int 1), (.int 0), (.ref a)])) (fun t k => XS.iconst X0.here hx rfl (hb hby d4_46) k) ?_
  refine own_st (fr' := (mkF m 48 #[.val (.ref a), oI 0, oI 260, .val (.int (t' &&& (255 : Int32))), .unset, .unset, .unset, .unset, .unset, .unset] [(.int 1), (.ref a)])) (fun t k => XS.iadd X0.here hx rfl (hb hby d4_47) rfl k) ?_
  refine own_baload (j := (1 : Int32)) X0 hx hZ e0 VA (by decide) (by decide) (v := (.int (-126 : Int32))) (h_1) (hb hby d4_48) ?_
  refine own_st (fr' := (mkF m 52 #[.val (.ref a), oI 0, oI 260, .val (.int (t' &&& (255 : Int32))), .unset, .unset, .unset, .unset, .unset, .unset] [(.int 255), (.int (-126 : Int32))])) (fun t k => XS.sipush X0.here hx rfl (hb hby d4_49) k) ?_
  refine own_st (fr' := (mkF m 53 #[.val (.ref a), oI 0, oI 260, .val (.int (t' &&& (255 : Int32))), .unset, .unset, .unset, .unset, .unset, .unset] [(.int 130)])) (fun t k => XS.iand X0.here hx rfl (hb hby d4_52) rfl k) ?_
  refine own_st (fr' := (mkF m 55 #[.val (.ref a), oI 0, oI 260, .val (.int (t' &&& (255 : Int32))), oI 130, .unset, .unset, .unset, .unset, .unset] [])) (fun t k => XS.istore X0.here hx rfl (hb hby d4_53) rfl  (l' := #[.val (.ref a), oI 0, oI 260, .val (.int (t' &&& (255 : Int32))), oI 130, .unset, .unset, .unset, .unset, .unset]) rfl k) ?_
  refine own_st (fr' := (mkF m 56 #[.val (.ref a), oI 0, oI 260, .val (.int (t' &&& (255 : Int32))), oI 130, .unset, .unset, .unset, .unset, .unset] [(.int 0)])) (fun t k => XS.iloadN X0.here hx rfl (hb hby d4_55) rfl  k) ?_
  refine own_st (fr' := (mkF m 57 #[.val (.ref a), oI 0, oI 260, .val (.int (t' &&& (255 : Int32))), oI 130, .unset, .unset, .unset, .unset, .unset] [(.int 2), (.int 0)])) (fun t k => XS.iconst X0.here hx rfl (hb hby d4_56) k) ?_
  refine own_st (fr' := (mkF m 58 #[.val (.ref a), oI 0, oI 260, .val (.int (t' &&& (255 : Int32))), oI 130, .unset, .unset, .unset, .unset, .unset] [(.int 2)])) (fun t k => XS.iadd X0.here hx rfl (hb hby d4_57) rfl k) ?_
  refine own_st (fr' := (mkF m 60 #[.val (.ref a), oI 0, oI 260, .val (.int (t' &&& (255 : Int32))), oI 130, oI 2, .unset, .unset, .unset, .unset] [])) (fun t k => XS.istore X0.here hx rfl (hb hby d4_58) rfl  (l' := #[.val (.ref a), oI 0, oI 260, .val (.int (t' &&& (255 : Int32))), oI 130, oI 2, .unset, .unset, .unset, .unset]) rfl k) ?_
  refine own_st (fr' := (mkF m 62 #[.val (.ref a), oI 0, oI 260, .val (.int (t' &&& (255 : Int32))), oI 130, oI 2, .unset, .unset, .unset, .unset] [(.int 130)])) (fun t k => XS.iload X0.here hx rfl (hb hby d4_60) rfl  k) ?_
  refine own_st (fr' := (mkF m 63 #[.val (.ref a), oI 0, oI 260, .val (.int (t' &&& (255 : Int32))), oI 130, oI 2, .unset, .unset, .unset, .unset] [(.long (130 : Int64))])) (fun t k => XS.i2l X0.here hx rfl (hb hby d4_62) rfl k) ?_
  refine own_st (fr' := (mkF m 65 #[.val (.ref a), oI 0, oI 260, .val (.int (t' &&& (255 : Int32))), oI 130, oI 2, .val (.long (130 : Int64)), .second, .unset, .unset] [])) (fun t k => XS.lstore X0.here hx rfl (hb hby d4_63) rfl  (l' := #[.val (.ref a), oI 0, oI 260, .val (.int (t' &&& (255 : Int32))), oI 130, oI 2, .val (.long (130 : Int64)), .second, .unset, .unset]) rfl k) ?_
  refine own_st (fr' := (mkF m 67 #[.val (.ref a), oI 0, oI 260, .val (.int (t' &&& (255 : Int32))), oI 130, oI 2, .val (.long (130 : Int64)), .second, .unset, .unset] [(.int 130)])) (fun t k => XS.iload X0.here hx rfl (hb hby d4_65) rfl  k) ?_
  refine own_st (fr' := (mkF m 70 #[.val (.ref a), oI 0, oI 260, .val (.int (t' &&& (255 : Int32))), oI 130, oI 2, .val (.long (130 : Int64)), .second, .unset, .unset] [(.int 128), (.int 130)])) (fun t k => XS.sipush X0.here hx rfl (hb hby d4_67) k) ?_
  refine own_st (fr' := (mkF m 73 #[.val (.ref a), oI 0, oI 260, .val (.int (t' &&& (255 : Int32))), oI 130, oI 2, .val (.long (130 : Int64)), .second, .unset, .unset] [])) (fun t k => XS.icmpNo X0.here hx rfl (hb hby d4_70) rfl (own_flt (x := (130 : Int32)) (y := (128 : Int32)) (show ¬ 130 < 128 from by decide)).1 k) ?_
  refine own_st (fr' := (mkF m 75 #[.val (.ref a), oI 0, oI 260, .val (.int (t' &&& (255 : Int32))), oI 130, oI 2, .val (.long (130 : Int64)), .second, .unset, .unset] [(.int 130)])) (fun t k => XS.iload X0.here hx rfl (hb hby d4_73) rfl  k) ?_
  refine own_st (fr' := (mkF m 77 #[.val (.ref a), oI 0, oI 260, .val (.int (t' &&& (255 : Int32))), oI 130, oI 2, .val (.long (130 : Int64)), .second, .unset, .unset] [(.int 127), (.int 130)])) (fun t k => XS.bipush X0.here hx rfl (hb hby d4_75) k) ?_
  refine own_st (fr' := (mkF m 78 #[.val (.ref a), oI 0, oI 260, .val (.int (t' &&& (255 : Int32))), oI 130, oI 2, .val (.long (130 : Int64)), .second, .unset, .unset] [(.int 2)])) (fun t k => XS.iand X0.here hx rfl (hb hby d4_77) rfl k) ?_
  refine own_st (fr' := (mkF m 80 #[.val (.ref a), oI 0, oI 260, .val (.int (t' &&& (255 : Int32))), oI 130, oI 2, .val (.long (130 : Int64)), .second, oI 2, .unset] [])) (fun t k => XS.istore X0.here hx rfl (hb hby d4_78) rfl  (l' := #[.val (.ref a), oI 0, oI 260, .val (.int (t' &&& (255 : Int32))), oI 130, oI 2, .val (.long (130 : Int64)), .second, oI 2, .unset]) rfl k) ?_
  refine own_st (fr' := (mkF m 82 #[.val (.ref a), oI 0, oI 260, .val (.int (t' &&& (255 : Int32))), oI 130, oI 2, .val (.long (130 : Int64)), .second, oI 2, .unset] [(.int 2)])) (fun t k => XS.iload X0.here hx rfl (hb hby d4_80) rfl  k) ?_
  refine own_st (fr' := (mkF m 85 #[.val (.ref a), oI 0, oI 260, .val (.int (t' &&& (255 : Int32))), oI 130, oI 2, .val (.long (130 : Int64)), .second, oI 2, .unset] [])) (fun t k => XS.ifNo X0.here hx rfl (hb hby d4_82) rfl ((if0 _ _).trans (own_feq (x := (2 : Int32)) (y := (0 : Int32)) (show ¬ 2 = 0 from by decide)).1) k) ?_
  refine own_st (fr' := (mkF m 87 #[.val (.ref a), oI 0, oI 260, .val (.int (t' &&& (255 : Int32))), oI 130, oI 2, .val (.long (130 : Int64)), .second, oI 2, .unset] [(.int 2)])) (fun t k => XS.iload X0.here hx rfl (hb hby d4_85) rfl  k) ?_
  refine own_st (fr' := (mkF m 88 #[.val (.ref a), oI 0, oI 260, .val (.int (t' &&& (255 : Int32))), oI 130, oI 2, .val (.long (130 : Int64)), .second, oI 2, .unset] [(.int 4), (.int 2)])) (fun t k => XS.iconst X0.here hx rfl (hb hby d4_87) k) ?_
  refine own_st (fr' := (mkF m 91 #[.val (.ref a), oI 0, oI 260, .val (.int (t' &&& (255 : Int32))), oI 130, oI 2, .val (.long (130 : Int64)), .second, oI 2, .unset] [])) (fun t k => XS.icmpNo X0.here hx rfl (hb hby d4_88) rfl (own_flt (x := (4 : Int32)) (y := (2 : Int32)) (show ¬ 4 < 2 from by decide)).2.2.1 k) ?_
  refine own_st (fr' := (mkF m 93 #[.val (.ref a), oI 0, oI 260, .val (.int (t' &&& (255 : Int32))), oI 130, oI 2, .val (.long (130 : Int64)), .second, oI 2, .unset] [(.int 2)])) (fun t k => XS.iload X0.here hx rfl (hb hby d4_91) rfl  k) ?_
  refine own_st (fr' := (mkF m 94 #[.val (.ref a), oI 0, oI 260, .val (.int (t' &&& (255 : Int32))), oI 130, oI 2, .val (.long (130 : Int64)), .second, oI 2, .unset] [(.int 260), (.int 2)])) (fun t k => XS.iloadN X0.here hx rfl (hb hby d4_93) rfl  k) ?_
  refine own_st (fr' := (mkF m 96 #[.val (.ref a), oI 0, oI 260, .val (.int (t' &&& (255 : Int32))), oI 130, oI 2, .val (.long (130 : Int64)), .second, oI 2, .unset] [(.int 2), (.int 260), (.int 2)])) (fun t k => XS.iload X0.here hx rfl (hb hby d4_94) rfl  k) ?_
  refine own_st (fr' := (mkF m 97 #[.val (.ref a), oI 0, oI 260, .val (.int (t' &&& (255 : Int32))), oI 130, oI 2, .val (.long (130 : Int64)), .second, oI 2, .unset] [(.int 258), (.int 2)])) (fun t k => XS.isub X0.here hx rfl (hb hby d4_96) rfl k) ?_
  refine own_st (fr' := (mkF m 110 #[.val (.ref a), oI 0, oI 260, .val (.int (t' &&& (255 : Int32))), oI 130, oI 2, .val (.long (130 : Int64)), .second, oI 2, .unset] [])) (fun t k => XS.icmpYes X0.here hx rfl (pc0 := 97) (pc' := 110) rfl (hb hby d4_97) rfl (own_flt (x := (258 : Int32)) (y := (2 : Int32)) (show ¬ 258 < 2 from by decide)).2.2.2 (by decide) (by decide) k) ?_
  refine own_st (fr' := (mkF m 111 #[.val (.ref a), oI 0, oI 260, .val (.int (t' &&& (255 : Int32))), oI 130, oI 2, .val (.long (130 : Int64)), .second, oI 2, .unset] [(.long (0 : Int64))])) (fun t k => XS.lconst X0.here hx rfl (hb hby d4_110) k) ?_
  refine own_st (fr' := (mkF m 113 #[.val (.ref a), oI 0, oI 260, .val (.int (t' &&& (255 : Int32))), oI 130, oI 2, .val (.long (0 : Int64)), .second, oI 2, .unset] [])) (fun t k => XS.lstore X0.here hx rfl (hb hby d4_111) rfl  (l' := #[.val (.ref a), oI 0, oI 260, .val (.int (t' &&& (255 : Int32))), oI 130, oI 2, .val (.long (0 : Int64)), .second, oI 2, .unset]) rfl k) ?_
  refine own_st (fr' := (mkF m 114 #[.val (.ref a), oI 0, oI 260, .val (.int (t' &&& (255 : Int32))), oI 130, oI 2, .val (.long (0 : Int64)), .second, oI 2, .unset] [(.int 0)])) (fun t k => XS.iconst X0.here hx rfl (hb hby d4_113) k) ?_
  refine own_st (fr' := (mkF m 116 #[.val (.ref a), oI 0, oI 260, .val (.int (t' &&& (255 : Int32))), oI 130, oI 2, .val (.long (0 : Int64)), .second, oI 2, oI 0] [])) (fun t k => XS.istore X0.here hx rfl (hb hby d4_114) rfl  (l' := #[.val (.ref a), oI 0, oI 260, .val (.int (t' &&& (255 : Int32))), oI 130, oI 2, .val (.long (0 : Int64)), .second, oI 2, oI 0]) rfl k) ?_
  refine own_st (fr' := (mkF m 118 #[.val (.ref a), oI 0, oI 260, .val (.int (t' &&& (255 : Int32))), oI 130, oI 2, .val (.long (0 : Int64)), .second, oI 2, oI 0] [(.int 0)])) (fun t k => XS.iload X0.here hx rfl (hb hby d4_116) rfl  k) ?_
  refine own_st (fr' := (mkF m 120 #[.val (.ref a), oI 0, oI 260, .val (.int (t' &&& (255 : Int32))), oI 130, oI 2, .val (.long (0 : Int64)), .second, oI 2, oI 0] [(.int 2), (.int 0)])) (fun t k => XS.iload X0.here hx rfl (hb hby d4_118) rfl  k) ?_
  refine own_st (fr' := (mkF m 123 #[.val (.ref a), oI 0, oI 260, .val (.int (t' &&& (255 : Int32))), oI 130, oI 2, .val (.long (0 : Int64)), .second, oI 2, oI 0] [])) (fun t k => XS.icmpNo X0.here hx rfl (hb hby d4_120) rfl (own_tlt (x := (0 : Int32)) (y := (2 : Int32)) (show 0 < 2 from by decide)).2.1 k) ?_
  refine own_st (fr' := (mkF m 125 #[.val (.ref a), oI 0, oI 260, .val (.int (t' &&& (255 : Int32))), oI 130, oI 2, .val (.long (0 : Int64)), .second, oI 2, oI 0] [(.long (0 : Int64))])) (fun t k => XS.lload X0.here hx rfl (hb hby d4_123) rfl  k) ?_
  refine own_st (fr' := (mkF m 127 #[.val (.ref a), oI 0, oI 260, .val (.int (t' &&& (255 : Int32))), oI 130, oI 2, .val (.long (0 : Int64)), .second, oI 2, oI 0] [(.int 8), (.long (0 : Int64))])) (fun t k => XS.bipush X0.here hx rfl (hb hby d4_125) k) ?_
  refine own_st (fr' := (mkF m 128 #[.val (.ref a), oI 0, oI 260, .val (.int (t' &&& (255 : Int32))), oI 130, oI 2, .val (.long (0 : Int64)), .second, oI 2, oI 0] [(.long (0 : Int64))])) (fun t k => XS.lshl X0.here hx rfl (hb hby d4_127) rfl k) ?_
  refine own_st (fr' := (mkF m 129 #[.val (.ref a), oI 0, oI 260, .val (.int (t' &&& (255 : Int32))), oI 130, oI 2, .val (.long (0 : Int64)), .second, oI 2, oI 0] [(.ref a), (.long (0 : Int64))])) (fun t k => XS.aloadN X0.here hx rfl (hb hby d4_128) rfl rfl k) ?_
  refine own_st (fr' := (mkF m 131 #[.val (.ref a), oI 0, oI 260, .val (.int (t' &&& (255 : Int32))), oI 130, oI 2, .val (.long (0 : Int64)), .second, oI 2, oI 0] [(.int 2), (.ref a), (.long (0 : Int64))])) (fun t k => XS.iload X0.here hx rfl (hb hby d4_129) rfl  k) ?_
  refine own_st (fr' := (mkF m 133 #[.val (.ref a), oI 0, oI 260, .val (.int (t' &&& (255 : Int32))), oI 130, oI 2, .val (.long (0 : Int64)), .second, oI 2, oI 0] [(.int 0), (.int 2), (.ref a), (.long (0 : Int64))])) (fun t k => XS.iload X0.here hx rfl (hb hby d4_131) rfl  k) ?_
  refine own_st (fr' := (mkF m 134 #[.val (.ref a), oI 0, oI 260, .val (.int (t' &&& (255 : Int32))), oI 130, oI 2, .val (.long (0 : Int64)), .second, oI 2, oI 0] [(.int 2), (.ref a), (.long (0 : Int64))])) (fun t k => XS.iadd X0.here hx rfl (hb hby d4_133) rfl k) ?_
  refine own_baload (j := (2 : Int32)) X0 hx hZ e0 VA (by decide) (by decide) (v := (.int 1)) (h_2) (hb hby d4_134) ?_
  refine own_st (fr' := (mkF m 138 #[.val (.ref a), oI 0, oI 260, .val (.int (t' &&& (255 : Int32))), oI 130, oI 2, .val (.long (0 : Int64)), .second, oI 2, oI 0] [(.int 255), (.int 1), (.long (0 : Int64))])) (fun t k => XS.sipush X0.here hx rfl (hb hby d4_135) k) ?_
  refine own_st (fr' := (mkF m 139 #[.val (.ref a), oI 0, oI 260, .val (.int (t' &&& (255 : Int32))), oI 130, oI 2, .val (.long (0 : Int64)), .second, oI 2, oI 0] [(.int 1), (.long (0 : Int64))])) (fun t k => XS.iand X0.here hx rfl (hb hby d4_138) rfl k) ?_
  refine own_st (fr' := (mkF m 140 #[.val (.ref a), oI 0, oI 260, .val (.int (t' &&& (255 : Int32))), oI 130, oI 2, .val (.long (0 : Int64)), .second, oI 2, oI 0] [(.long (1 : Int64)), (.long (0 : Int64))])) (fun t k => XS.i2l X0.here hx rfl (hb hby d4_139) rfl k) ?_
  refine own_st (fr' := (mkF m 141 #[.val (.ref a), oI 0, oI 260, .val (.int (t' &&& (255 : Int32))), oI 130, oI 2, .val (.long (0 : Int64)), .second, oI 2, oI 0] [(.long (1 : Int64))])) (fun t k => XS.lor X0.here hx rfl (hb hby d4_140) rfl k) ?_
  refine own_st (fr' := (mkF m 143 #[.val (.ref a), oI 0, oI 260, .val (.int (t' &&& (255 : Int32))), oI 130, oI 2, .val (.long (1 : Int64)), .second, oI 2, oI 0] [])) (fun t k => XS.lstore X0.here hx rfl (hb hby d4_141) rfl  (l' := #[.val (.ref a), oI 0, oI 260, .val (.int (t' &&& (255 : Int32))), oI 130, oI 2, .val (.long (1 : Int64)), .second, oI 2, oI 0]) rfl k) ?_
  refine own_st (fr' := (mkF m 146 #[.val (.ref a), oI 0, oI 260, .val (.int (t' &&& (255 : Int32))), oI 130, oI 2, .val (.long (1 : Int64)), .second, oI 2, oI 1] [])) (fun t k => XS.iinc X0.here hx rfl (hb hby d4_143) rfl (l' := #[.val (.ref a), oI 0, oI 260, .val (.int (t' &&& (255 : Int32))), oI 130, oI 2, .val (.long (1 : Int64)), .second, oI 2, oI 1]) rfl k) ?_
  refine own_st (fr' := (mkF m 116 #[.val (.ref a), oI 0, oI 260, .val (.int (t' &&& (255 : Int32))), oI 130, oI 2, .val (.long (1 : Int64)), .second, oI 2, oI 1] [])) (fun t k => XS.goto X0.here hx rfl (pc0 := 146) (pc' := 116) rfl (hb hby d4_146) (by decide) (by decide) k) ?_
  refine own_st (fr' := (mkF m 118 #[.val (.ref a), oI 0, oI 260, .val (.int (t' &&& (255 : Int32))), oI 130, oI 2, .val (.long (1 : Int64)), .second, oI 2, oI 1] [(.int 1)])) (fun t k => XS.iload X0.here hx rfl (hb hby d4_116) rfl  k) ?_
  refine own_st (fr' := (mkF m 120 #[.val (.ref a), oI 0, oI 260, .val (.int (t' &&& (255 : Int32))), oI 130, oI 2, .val (.long (1 : Int64)), .second, oI 2, oI 1] [(.int 2), (.int 1)])) (fun t k => XS.iload X0.here hx rfl (hb hby d4_118) rfl  k) ?_
  refine own_st (fr' := (mkF m 123 #[.val (.ref a), oI 0, oI 260, .val (.int (t' &&& (255 : Int32))), oI 130, oI 2, .val (.long (1 : Int64)), .second, oI 2, oI 1] [])) (fun t k => XS.icmpNo X0.here hx rfl (hb hby d4_120) rfl (own_tlt (x := (1 : Int32)) (y := (2 : Int32)) (show 1 < 2 from by decide)).2.1 k) ?_
  refine own_st (fr' := (mkF m 125 #[.val (.ref a), oI 0, oI 260, .val (.int (t' &&& (255 : Int32))), oI 130, oI 2, .val (.long (1 : Int64)), .second, oI 2, oI 1] [(.long (1 : Int64))])) (fun t k => XS.lload X0.here hx rfl (hb hby d4_123) rfl  k) ?_
  refine own_st (fr' := (mkF m 127 #[.val (.ref a), oI 0, oI 260, .val (.int (t' &&& (255 : Int32))), oI 130, oI 2, .val (.long (1 : Int64)), .second, oI 2, oI 1] [(.int 8), (.long (1 : Int64))])) (fun t k => XS.bipush X0.here hx rfl (hb hby d4_125) k) ?_
  refine own_st (fr' := (mkF m 128 #[.val (.ref a), oI 0, oI 260, .val (.int (t' &&& (255 : Int32))), oI 130, oI 2, .val (.long (1 : Int64)), .second, oI 2, oI 1] [(.long (256 : Int64))])) (fun t k => XS.lshl X0.here hx rfl (hb hby d4_127) rfl k) ?_
  refine own_st (fr' := (mkF m 129 #[.val (.ref a), oI 0, oI 260, .val (.int (t' &&& (255 : Int32))), oI 130, oI 2, .val (.long (1 : Int64)), .second, oI 2, oI 1] [(.ref a), (.long (256 : Int64))])) (fun t k => XS.aloadN X0.here hx rfl (hb hby d4_128) rfl rfl k) ?_
  refine own_st (fr' := (mkF m 131 #[.val (.ref a), oI 0, oI 260, .val (.int (t' &&& (255 : Int32))), oI 130, oI 2, .val (.long (1 : Int64)), .second, oI 2, oI 1] [(.int 2), (.ref a), (.long (256 : Int64))])) (fun t k => XS.iload X0.here hx rfl (hb hby d4_129) rfl  k) ?_
  refine own_st (fr' := (mkF m 133 #[.val (.ref a), oI 0, oI 260, .val (.int (t' &&& (255 : Int32))), oI 130, oI 2, .val (.long (1 : Int64)), .second, oI 2, oI 1] [(.int 1), (.int 2), (.ref a), (.long (256 : Int64))])) (fun t k => XS.iload X0.here hx rfl (hb hby d4_131) rfl  k) ?_
  refine own_st (fr' := (mkF m 134 #[.val (.ref a), oI 0, oI 260, .val (.int (t' &&& (255 : Int32))), oI 130, oI 2, .val (.long (1 : Int64)), .second, oI 2, oI 1] [(.int 3), (.ref a), (.long (256 : Int64))])) (fun t k => XS.iadd X0.here hx rfl (hb hby d4_133) rfl k) ?_
  refine own_baload (j := (3 : Int32)) X0 hx hZ e0 VA (by decide) (by decide) (v := (.int 0)) (h_3) (hb hby d4_134) ?_
  refine own_st (fr' := (mkF m 138 #[.val (.ref a), oI 0, oI 260, .val (.int (t' &&& (255 : Int32))), oI 130, oI 2, .val (.long (1 : Int64)), .second, oI 2, oI 1] [(.int 255), (.int 0), (.long (256 : Int64))])) (fun t k => XS.sipush X0.here hx rfl (hb hby d4_135) k) ?_
  refine own_st (fr' := (mkF m 139 #[.val (.ref a), oI 0, oI 260, .val (.int (t' &&& (255 : Int32))), oI 130, oI 2, .val (.long (1 : Int64)), .second, oI 2, oI 1] [(.int 0), (.long (256 : Int64))])) (fun t k => XS.iand X0.here hx rfl (hb hby d4_138) rfl k) ?_
  refine own_st (fr' := (mkF m 140 #[.val (.ref a), oI 0, oI 260, .val (.int (t' &&& (255 : Int32))), oI 130, oI 2, .val (.long (1 : Int64)), .second, oI 2, oI 1] [(.long (0 : Int64)), (.long (256 : Int64))])) (fun t k => XS.i2l X0.here hx rfl (hb hby d4_139) rfl k) ?_
  refine own_st (fr' := (mkF m 141 #[.val (.ref a), oI 0, oI 260, .val (.int (t' &&& (255 : Int32))), oI 130, oI 2, .val (.long (1 : Int64)), .second, oI 2, oI 1] [(.long (256 : Int64))])) (fun t k => XS.lor X0.here hx rfl (hb hby d4_140) rfl k) ?_
  refine own_st (fr' := (mkF m 143 #[.val (.ref a), oI 0, oI 260, .val (.int (t' &&& (255 : Int32))), oI 130, oI 2, .val (.long (256 : Int64)), .second, oI 2, oI 1] [])) (fun t k => XS.lstore X0.here hx rfl (hb hby d4_141) rfl  (l' := #[.val (.ref a), oI 0, oI 260, .val (.int (t' &&& (255 : Int32))), oI 130, oI 2, .val (.long (256 : Int64)), .second, oI 2, oI 1]) rfl k) ?_
  refine own_st (fr' := (mkF m 146 #[.val (.ref a), oI 0, oI 260, .val (.int (t' &&& (255 : Int32))), oI 130, oI 2, .val (.long (256 : Int64)), .second, oI 2, oI 2] [])) (fun t k => XS.iinc X0.here hx rfl (hb hby d4_143) rfl (l' := #[.val (.ref a), oI 0, oI 260, .val (.int (t' &&& (255 : Int32))), oI 130, oI 2, .val (.long (256 : Int64)), .second, oI 2, oI 2]) rfl k) ?_
  refine own_st (fr' := (mkF m 116 #[.val (.ref a), oI 0, oI 260, .val (.int (t' &&& (255 : Int32))), oI 130, oI 2, .val (.long (256 : Int64)), .second, oI 2, oI 2] [])) (fun t k => XS.goto X0.here hx rfl (pc0 := 146) (pc' := 116) rfl (hb hby d4_146) (by decide) (by decide) k) ?_
  refine own_st (fr' := (mkF m 118 #[.val (.ref a), oI 0, oI 260, .val (.int (t' &&& (255 : Int32))), oI 130, oI 2, .val (.long (256 : Int64)), .second, oI 2, oI 2] [(.int 2)])) (fun t k => XS.iload X0.here hx rfl (hb hby d4_116) rfl  k) ?_
  refine own_st (fr' := (mkF m 120 #[.val (.ref a), oI 0, oI 260, .val (.int (t' &&& (255 : Int32))), oI 130, oI 2, .val (.long (256 : Int64)), .second, oI 2, oI 2] [(.int 2), (.int 2)])) (fun t k => XS.iload X0.here hx rfl (hb hby d4_118) rfl  k) ?_
  refine own_st (fr' := (mkF m 149 #[.val (.ref a), oI 0, oI 260, .val (.int (t' &&& (255 : Int32))), oI 130, oI 2, .val (.long (256 : Int64)), .second, oI 2, oI 2] [])) (fun t k => XS.icmpYes X0.here hx rfl (pc0 := 120) (pc' := 149) rfl (hb hby d4_120) rfl (own_flt (x := (2 : Int32)) (y := (2 : Int32)) (show ¬ 2 < 2 from by decide)).2.1 (by decide) (by decide) k) ?_
  refine own_st (fr' := (mkF m 151 #[.val (.ref a), oI 0, oI 260, .val (.int (t' &&& (255 : Int32))), oI 130, oI 2, .val (.long (256 : Int64)), .second, oI 2, oI 2] [(.int 2)])) (fun t k => XS.iload X0.here hx rfl (hb hby d4_149) rfl  k) ?_
  refine own_st (fr' := (mkF m 153 #[.val (.ref a), oI 0, oI 260, .val (.int (t' &&& (255 : Int32))), oI 130, oI 2, .val (.long (256 : Int64)), .second, oI 2, oI 2] [(.int 2), (.int 2)])) (fun t k => XS.iload X0.here hx rfl (hb hby d4_151) rfl  k) ?_
  refine own_st (fr' := (mkF m 154 #[.val (.ref a), oI 0, oI 260, .val (.int (t' &&& (255 : Int32))), oI 130, oI 2, .val (.long (256 : Int64)), .second, oI 2, oI 2] [(.int 4)])) (fun t k => XS.iadd X0.here hx rfl (hb hby d4_153) rfl k) ?_
  refine own_st (fr' := (mkF m 156 #[.val (.ref a), oI 0, oI 260, .val (.int (t' &&& (255 : Int32))), oI 130, oI 4, .val (.long (256 : Int64)), .second, oI 2, oI 2] [])) (fun t k => XS.istore X0.here hx rfl (hb hby d4_154) rfl  (l' := #[.val (.ref a), oI 0, oI 260, .val (.int (t' &&& (255 : Int32))), oI 130, oI 4, .val (.long (256 : Int64)), .second, oI 2, oI 2]) rfl k) ?_
  refine own_st (fr' := (mkF m 158 #[.val (.ref a), oI 0, oI 260, .val (.int (t' &&& (255 : Int32))), oI 130, oI 4, .val (.long (256 : Int64)), .second, oI 2, oI 2] [(.long (256 : Int64))])) (fun t k => XS.lload X0.here hx rfl (hb hby d4_156) rfl  k) ?_
  refine own_st (fr' := (mkF m 159 #[.val (.ref a), oI 0, oI 260, .val (.int (t' &&& (255 : Int32))), oI 130, oI 4, .val (.long (256 : Int64)), .second, oI 2, oI 2] [(.int 260), (.long (256 : Int64))])) (fun t k => XS.iloadN X0.here hx rfl (hb hby d4_158) rfl  k) ?_
  refine own_st (fr' := (mkF m 161 #[.val (.ref a), oI 0, oI 260, .val (.int (t' &&& (255 : Int32))), oI 130, oI 4, .val (.long (256 : Int64)), .second, oI 2, oI 2] [(.int 4), (.int 260), (.long (256 : Int64))])) (fun t k => XS.iload X0.here hx rfl (hb hby d4_159) rfl  k) ?_
  refine own_st (fr' := (mkF m 162 #[.val (.ref a), oI 0, oI 260, .val (.int (t' &&& (255 : Int32))), oI 130, oI 4, .val (.long (256 : Int64)), .second, oI 2, oI 2] [(.int 256), (.long (256 : Int64))])) (fun t k => XS.isub X0.here hx rfl (hb hby d4_161) rfl k) ?_
  refine own_st (fr' := (mkF m 163 #[.val (.ref a), oI 0, oI 260, .val (.int (t' &&& (255 : Int32))), oI 130, oI 4, .val (.long (256 : Int64)), .second, oI 2, oI 2] [(.long (256 : Int64)), (.long (256 : Int64))])) (fun t k => XS.i2l X0.here hx rfl (hb hby d4_162) rfl k) ?_
  refine own_st (fr' := (mkF m 164 #[.val (.ref a), oI 0, oI 260, .val (.int (t' &&& (255 : Int32))), oI 130, oI 4, .val (.long (256 : Int64)), .second, oI 2, oI 2] [(.int (lcmpW (256 : Int64) (256 : Int64)))])) (fun t k => XS.lcmp X0.here hx rfl (hb hby d4_163) rfl k) ?_
  refine own_st (fr' := (mkF m 177 #[.val (.ref a), oI 0, oI 260, .val (.int (t' &&& (255 : Int32))), oI 130, oI 4, .val (.long (256 : Int64)), .second, oI 2, oI 2] [])) (fun t k => XS.ifYes X0.here hx rfl (pc0 := 164) (pc' := 177) rfl (hb hby d4_164) rfl (own_fgtL (x := (256 : Int64)) (y := (256 : Int64)) (show ¬ 256 < 256 from by decide)).2 (by decide) (by decide) k) ?_
  obtain ⟨T95, h95, X95, e95, E95, A95, D95, -, st95⟩ := newO X0 hx hZ hown (hw _ (List.mem_of_getElem? (i := 15) rfl)) (hw _ (List.mem_of_getElem? (i := 16) rfl)) (hw _ (List.mem_of_getElem? (i := 10) rfl)) e0 (g := (mkF m 177 #[.val (.ref a), oI 0, oI 260, .val (.int (t' &&& (255 : Int32))), oI 130, oI 4, .val (.long (256 : Int64)), .second, oI 2, oI 2] [])) rfl (hb hby d4_177) (by decide) (by decide)
  obtain ⟨b95, g95⟩ : ∃ z, z = h0.size := ⟨_, rfl⟩
  rw [← g95] at A95 D95 st95
  have lt95_a : a < b95 := Nat.lt_of_lt_of_eq VA.lt g95.symm
  have ne95_a : a ≠ b95 := Nat.ne_of_lt lt95_a
  have ge_b95 : n0 ≤ b95 := Nat.le_trans Z0 (Nat.le_of_eq g95.symm)
  have sz_b95 : h0.size ≤ b95 := Nat.le_trans (Nat.le_refl _) (Nat.le_of_eq g95.symm)
  have F95_bytes : Fld Z h95 b95 "com/example/linkvouch/linkvouch/apk/Der" "bytes" "[B" .null := D95 (Or.inr (hw _ (List.mem_of_getElem? (i := 24) rfl))) (ty := (.array .byte)) (by decide)
  have F95_tag : Fld Z h95 b95 "com/example/linkvouch/linkvouch/apk/Der" "tag" "I" (.int 0) := D95 (Or.inr (hw _ (List.mem_of_getElem? (i := 26) rfl))) (ty := .int) (by decide)
  have F95_start : Fld Z h95 b95 "com/example/linkvouch/linkvouch/apk/Der" "start" "I" (.int 0) := D95 (Or.inr (hw _ (List.mem_of_getElem? (i := 28) rfl))) (ty := .int) (by decide)
  have F95_contentStart : Fld Z h95 b95 "com/example/linkvouch/linkvouch/apk/Der" "contentStart" "I" (.int 0) := D95 (Or.inr (hw _ (List.mem_of_getElem? (i := 30) rfl))) (ty := .int) (by decide)
  have F95_end : Fld Z h95 b95 "com/example/linkvouch/linkvouch/apk/Der" "end" "I" (.int 0) := D95 (Or.inr (hw _ (List.mem_of_getElem? (i := 32) rfl))) (ty := .int) (by decide)
  refine own_st (fr' := (mkF m 180 #[.val (.ref a), oI 0, oI 260, .val (.int (t' &&& (255 : Int32))), oI 130, oI 4, .val (.long (256 : Int64)), .second, oI 2, oI 2] [(.ref b95)])) st95 ?_
  refine own_st (fr' := (mkF m 181 #[.val (.ref a), oI 0, oI 260, .val (.int (t' &&& (255 : Int32))), oI 130, oI 4, .val (.long (256 : Int64)), .second, oI 2, oI 2] [(.ref b95), (.ref b95)])) (fun t k => XS.dup X95.here hx rfl (hb hby d4_180) rfl rfl k) ?_
  refine own_st (fr' := (mkF m 182 #[.val (.ref a), oI 0, oI 260, .val (.int (t' &&& (255 : Int32))), oI 130, oI 4, .val (.long (256 : Int64)), .second, oI 2, oI 2] [(.ref a), (.ref b95), (.ref b95)])) (fun t k => XS.aloadN X95.here hx rfl (hb hby d4_181) rfl rfl k) ?_
  refine own_st (fr' := (mkF m 183 #[.val (.ref a), oI 0, oI 260, .val (.int (t' &&& (255 : Int32))), oI 130, oI 4, .val (.long (256 : Int64)), .second, oI 2, oI 2] [(.int (t' &&& (255 : Int32))), (.ref a), (.ref b95), (.ref b95)])) (fun t k => XS.iloadN X95.here hx rfl (hb hby d4_182) rfl  k) ?_
  refine own_st (fr' := (mkF m 184 #[.val (.ref a), oI 0, oI 260, .val (.int (t' &&& (255 : Int32))), oI 130, oI 4, .val (.long (256 : Int64)), .second, oI 2, oI 2] [(.int 0), (.int (t' &&& (255 : Int32))), (.ref a), (.ref b95), (.ref b95)])) (fun t k => XS.iloadN X95.here hx rfl (hb hby d4_183) rfl  k) ?_
  refine own_st (fr' := (mkF m 186 #[.val (.ref a), oI 0, oI 260, .val (.int (t' &&& (255 : Int32))), oI 130, oI 4, .val (.long (256 : Int64)), .second, oI 2, oI 2] [(.int 4), (.int 0), (.int (t' &&& (255 : Int32))), (.ref a), (.ref b95), (.ref b95)])) (fun t k => XS.iload X95.here hx rfl (hb hby d4_184) rfl  k) ?_
  refine own_st (fr' := (mkF m 188 #[.val (.ref a), oI 0, oI 260, .val (.int (t' &&& (255 : Int32))), oI 130, oI 4, .val (.long (256 : Int64)), .second, oI 2, oI 2] [(.int 4), (.int 4), (.int 0), (.int (t' &&& (255 : Int32))), (.ref a), (.ref b95), (.ref b95)])) (fun t k => XS.iload X95.here hx rfl (hb hby d4_186) rfl  k) ?_
  refine own_st (fr' := (mkF m 190 #[.val (.ref a), oI 0, oI 260, .val (.int (t' &&& (255 : Int32))), oI 130, oI 4, .val (.long (256 : Int64)), .second, oI 2, oI 2] [(.long (256 : Int64)), (.int 4), (.int 4), (.int 0), (.int (t' &&& (255 : Int32))), (.ref a), (.ref b95), (.ref b95)])) (fun t k => XS.lload X95.here hx rfl (hb hby d4_188) rfl  k) ?_
  refine own_st (fr' := (mkF m 191 #[.val (.ref a), oI 0, oI 260, .val (.int (t' &&& (255 : Int32))), oI 130, oI 4, .val (.long (256 : Int64)), .second, oI 2, oI 2] [(.int 256), (.int 4), (.int 4), (.int 0), (.int (t' &&& (255 : Int32))), (.ref a), (.ref b95), (.ref b95)])) (fun t k => XS.l2i X95.here hx rfl (hb hby d4_190) rfl k) ?_
  refine own_st (fr' := (mkF m 192 #[.val (.ref a), oI 0, oI 260, .val (.int (t' &&& (255 : Int32))), oI 130, oI 4, .val (.long (256 : Int64)), .second, oI 2, oI 2] [(.int 260), (.int 4), (.int 0), (.int (t' &&& (255 : Int32))), (.ref a), (.ref b95), (.ref b95)])) (fun t k => XS.iadd X95.here hx rfl (hb hby d4_191) rfl k) ?_
  refine own_callN X95 hx hZ (y := (⟨"com/example/linkvouch/linkvouch/apk/Der", "<init>", "([BIIII)V"⟩ : MethodName)) hown rfl (hw _ (List.mem_of_getElem? (i := 17) rfl)) (hw _ (List.mem_of_getElem? (i := 18) rfl)) (hw _ (List.mem_of_getElem? (i := 10) rfl)) (hw _ (List.mem_of_getElem? (i := 19) rfl)) (by decide) (a := b95) (argsL := [(.ref a), (.int (t' &&& (255 : Int32))), (.int 0), (.int 4), (.int 260)]) (rest := [(.ref b95)]) (W := 1) (rm_dinit l Z a0 hw [] b95 a (t' &&& (255 : Int32)) (0 : Int32) (4 : Int32) (260 : Int32) h95 n0 (Nat.le_trans Z0 E95.1) F95_bytes F95_tag F95_start F95_contentStart F95_end A95 ge_b95) e95 (by rw [hml]; rfl) (lenOf pd_3 rfl) rfl (Nat.le_of_eq rfl) (hb hby d4_192) (by decide) (by decide) (by decide) (by decide) ?_
  intro v96 T96 L96 X96 hQ96
  obtain ⟨rfl, Nq96, K96, Fc96_0, Fc96_1, Fc96_2, Fc96_3, Fc96_4⟩ := hQ96
  have N96 := Fr.app N0 Nq96
  exact own_retA X96 hx hlk hret rfl rfl (hb hby d4_195) (by decide) (by decide) (⟨⟨b95, rfl, sz_b95, (A95.keep K96), Fc96_0, Fc96_1, Fc96_2, Fc96_3, Fc96_4⟩, N96, (Keep.trans (Keep.ext (Keep.refl h0 []) E95) K96 (allS (Or.inr sz_b95) all0))⟩)
theorem ef_parse6 (m : MethodId) (a : Addr) : entryFrame m #[(.ref a)] 2 = mkF m 0 #[.val (.ref a), .unset] [] := by first | (simp [entryFrame, mkF, argsToLocals, Value.category, maxLocals]; done) | rfl
def Q_parse6 (Z : State) (a : Addr) (t' : Int32) (f : Nat → Value) (h0 : Heap) (n0 : Nat) : Option Value → Heap → List Loc → Prop := fun v h L => (∃ d : Addr, v = some (.ref d) ∧ h0.size ≤ d ∧ Exa Z h d "com/example/linkvouch/linkvouch/apk/Der" ∧ Fld Z h d "com/example/linkvouch/linkvouch/apk/Der" "bytes" "[B" (.ref a) ∧ Fld Z h d "com/example/linkvouch/linkvouch/apk/Der" "tag" "I" (.int (t' &&& 255)) ∧ Fld Z h d "com/example/linkvouch/linkvouch/apk/Der" "start" "I" (.int 0) ∧ Fld Z h d "com/example/linkvouch/linkvouch/apk/Der" "contentStart" "I" (.int 4) ∧ Fld Z h d "com/example/linkvouch/linkvouch/apk/Der" "end" "I" (.int 260)) ∧ Fr n0 L ∧ Keep h0 h []
set_option maxRecDepth 65536 in
set_option maxHeartbeats 40000000 in
theorem rm_parse6 (l : Launch) (Z : State) (a0 : Array Value) (hw : ∀ d ∈ tables_1, d.before a0 Z = true) (ws : List Jvm.Cond) (a : Addr) (t' : Int32) (f : Nat → Value) (h0 : Heap) (n0 : Nat) (Z0 : n0 ≤ h0.size) (VA : own_A Z h0 a .byte 260 f) (h_0 : f 0 = .int t') (h_1 : f 1 = .int (-126)) (h_2 : f 2 = .int (1)) (h_3 : f 3 = .int (0)) (htag : ¬ ((t' &&& 255) &&& 31).toInt = 31) :
    MetFree l (⟨"com/example/linkvouch/linkvouch/apk/Der", "parse", "([B)Lcom/example/linkvouch/linkvouch/apk/Der;"⟩ : MethodName) (head1 (Jvm.Cond.code (⟨"com/example/linkvouch/linkvouch/apk/Der", "parse", "([B)Lcom/example/linkvouch/linkvouch/apk/Der;"⟩ : MethodName) prog_30_method_2_code 2 (some (.object "com/example/linkvouch/linkvouch/apk/Der")) :: ws) ({ frames := 3, cells := 1, slots := 5, locals := 70 } : Room)) (fun aX U => aX = #[(.ref a)] ∧ Z.Warmed39 U.vm ∧ U.heap = h0) (fun _ _ _ _ _ => True) (fun _ U o U' => ∃ v L, o = .returned v ∧ (Q_parse6 Z a t' f h0 n0) v U'.heap L ∧ FrameEnd U o U' L ({ frames := 3, cells := 1, slots := 5, locals := 70 } : Room).cells ({ frames := 3, cells := 1, slots := 5, locals := 70 } : Room).slots) := by
  refine own_met (Q := (Q_parse6 Z a t' f h0 n0)) (plainFor_of_name (x := (⟨"com/example/linkvouch/linkvouch/apk/Der", "parse", "([B)Lcom/example/linkvouch/linkvouch/apk/Der;"⟩ : MethodName)) pn_1) (fun m => ef_parse6 m a) ?_
  intro p e s m below meth cD s₁ hx hby hml hret hlk hZ hown hnm X0 e0 hs0
  have hown : s.vm.findClass "com/example/linkvouch/linkvouch/apk/Der" = some m.cls := hown
  have N0 := Fr.nil n0
  refine own_st (fr' := (mkF m 1 #[.val (.ref a), .unset] [(.ref a)])) (fun t k => XS.aloadN X0.here hx rfl (hb hby d3_0) rfl rfl k) ?_
  refine own_st (fr' := (mkF m 2 #[.val (.ref a), .unset] [(.int 0), (.ref a)])) (fun t k => XS.iconst X0.here hx rfl (hb hby d3_1) k) ?_
  refine own_st (fr' := (mkF m 3 #[.val (.ref a), .unset] [(.ref a), (.int 0), (.ref a)])) (fun t k => XS.aloadN X0.here hx rfl (hb hby d3_2) rfl rfl k) ?_
  refine own_alen X0 hx hZ e0 VA (hb hby d3_3) ?_
  refine own_callS X0 hx hZ (y := (⟨"com/example/linkvouch/linkvouch/apk/Der", "read", "([BII)Lcom/example/linkvouch/linkvouch/apk/Der;"⟩ : MethodName)) hown (hw _ (List.mem_of_getElem? (i := 12) rfl)) (hw _ (List.mem_of_getElem? (i := 13) rfl)) (hw _ (List.mem_of_getElem? (i := 10) rfl)) (hw _ (List.mem_of_getElem? (i := 14) rfl)) (by decide) (argsL := [(.ref a), (.int 0), (.int 260)]) (rest := []) (W := 0) (rm_read6 l Z a0 hw [] a t' f h0 n0 Z0 VA h_0 h_1 h_2 h_3 htag) e0 (by rw [hml]; rfl) (lenOf pd_4 rfl) rfl (Nat.le_of_eq rfl) (hb hby d3_4) (by decide) (by decide) (by decide) (by decide) ?_
  intro v97 T97 L97 X97 hQ97
  obtain ⟨⟨d, rfl, hd0, Ed, Fd0, Fd1, Fd2, Fd3, Fd4⟩, Nq97, K97⟩ := hQ97
  have N97 := Fr.app N0 Nq97
  refine own_st (fr' := (mkF m 8 #[.val (.ref a), .val (.ref d)] [])) (fun t k => XS.astoreN X97.here hx rfl (hb hby d3_7) rfl rfl (l' := #[.val (.ref a), .val (.ref d)]) rfl k) ?_
  refine own_st (fr' := (mkF m 9 #[.val (.ref a), .val (.ref d)] [(.ref d)])) (fun t k => XS.aloadN X97.here hx rfl (hb hby d3_8) rfl rfl k) ?_
  obtain ⟨T98, X98, e98, st98⟩ := getF X97 hx hZ hown (host := "") (Or.inl (hw _ (List.mem_of_getElem? (i := 31) rfl))) Via.refl rfl Fd4 (g := (mkF m 9 #[.val (.ref a), .val (.ref d)] [(.ref d)])) rfl rfl (hb hby d3_9)
  refine own_st (fr' := (mkF m 12 #[.val (.ref a), .val (.ref d)] [(.int 260)])) st98 ?_
  refine own_st (fr' := (mkF m 13 #[.val (.ref a), .val (.ref d)] [(.ref a), (.int 260)])) (fun t k => XS.aloadN X98.here hx rfl (hb hby d3_12) rfl rfl k) ?_
  refine own_alen X98 hx hZ e98 (VA.keep K97 nin0) (hb hby d3_13) ?_
  refine own_st (fr' := (mkF m 27 #[.val (.ref a), .val (.ref d)] [])) (fun t k => XS.icmpYes X98.here hx rfl (pc0 := 14) (pc' := 27) rfl (hb hby d3_14) rfl (own_teq (x := (260 : Int32)) (y := (260 : Int32)) (show 260 = 260 from by decide)).1 (by decide) (by decide) k) ?_
  refine own_st (fr' := (mkF m 28 #[.val (.ref a), .val (.ref d)] [(.ref d)])) (fun t k => XS.aloadN X98.here hx rfl (hb hby d3_27) rfl rfl k) ?_
  exact own_retA X98 hx hlk hret rfl rfl (hb hby d3_28) (by decide) (by decide) (by rw [e98]; exact ⟨⟨d, rfl, hd0, Ed, Fd0, Fd1, Fd2, Fd3, Fd4⟩, N97, (Keep.trans (Keep.refl h0 []) K97 all0)⟩)
theorem ef_cont6 (m : MethodId) (d : Addr) : entryFrame m #[(.ref d)] 1 = mkF m 0 #[.val (.ref d)] [] := by first | (simp [entryFrame, mkF, argsToLocals, Value.category, maxLocals]; done) | rfl
def Q_cont6 (Z : State) (d : Addr) (a : Addr) (f : Nat → Value) (h0 : Heap) (n0 : Nat) : Option Value → Heap → List Loc → Prop := fun v h L => (∃ (r : Addr) (g : Nat → Value), v = some (.ref r) ∧ h0.size ≤ r ∧ own_A Z h r .byte 256 g ∧ ∀ i : Nat, i < 256 → g i = f (4 + i)) ∧ Fr n0 L ∧ Keep h0 h []
set_option maxRecDepth 65536 in
set_option maxHeartbeats 40000000 in
theorem rm_cont6 (l : Launch) (Z : State) (a0 : Array Value) (hw : ∀ d ∈ tables_1, d.before a0 Z = true) (ws : List Jvm.Cond) (d : Addr) (a : Addr) (f : Nat → Value) (h0 : Heap) (n0 : Nat) (Z0 : n0 ≤ h0.size) (F_bytes : Fld Z h0 d "com/example/linkvouch/linkvouch/apk/Der" "bytes" "[B" (.ref a)) (VA : own_A Z h0 a .byte 260 f) (EA : Exa Z h0 a "[B") (F_end : Fld Z h0 d "com/example/linkvouch/linkvouch/apk/Der" "end" "I" (.int 260)) (F_contentStart : Fld Z h0 d "com/example/linkvouch/linkvouch/apk/Der" "contentStart" "I" (.int 4)) :
    MetFree l (⟨"com/example/linkvouch/linkvouch/apk/Der", "content", "()[B"⟩ : MethodName) (head1 (Jvm.Cond.code (⟨"com/example/linkvouch/linkvouch/apk/Der", "content", "()[B"⟩ : MethodName) prog_30_method_9_code 1 (some (.array .byte)) :: ws) ({ frames := 3, cells := 1, slots := 304, locals := 110 } : Room)) (fun aX U => aX = #[(.ref d)] ∧ Z.Warmed39 U.vm ∧ U.heap = h0) (fun _ _ _ _ _ => True) (fun _ U o U' => ∃ v L, o = .returned v ∧ (Q_cont6 Z d a f h0 n0) v U'.heap L ∧ FrameEnd U o U' L ({ frames := 3, cells := 1, slots := 304, locals := 110 } : Room).cells ({ frames := 3, cells := 1, slots := 304, locals := 110 } : Room).slots) := by
  refine own_met (Q := (Q_cont6 Z d a f h0 n0)) (plainFor_of_name (x := (⟨"com/example/linkvouch/linkvouch/apk/Der", "content", "()[B"⟩ : MethodName)) pn_1) (fun m => ef_cont6 m d) ?_
  intro p e s m below meth cD s₁ hx hby hml hret hlk hZ hown hnm X0 e0 hs0
  have hown : s.vm.findClass "com/example/linkvouch/linkvouch/apk/Der" = some m.cls := hown
  have N0 := Fr.nil n0
  refine own_st (fr' := (mkF m 1 #[.val (.ref d)] [(.ref d)])) (fun t k => XS.aloadN X0.here hx rfl (hb hby d7_0) rfl rfl k) ?_
  obtain ⟨T99, X99, e99, st99⟩ := getF X0 hx hZ hown (host := "") (Or.inl (hw _ (List.mem_of_getElem? (i := 23) rfl))) Via.refl e0 F_bytes (g := (mkF m 1 #[.val (.ref d)] [(.ref d)])) rfl rfl (hb hby d7_1)
  refine own_st (fr' := (mkF m 4 #[.val (.ref d)] [(.ref a)])) st99 ?_
  refine own_st (fr' := (mkF m 5 #[.val (.ref d)] [(.ref d), (.ref a)])) (fun t k => XS.aloadN X99.here hx rfl (hb hby d7_4) rfl rfl k) ?_
  obtain ⟨T100, X100, e100, st100⟩ := getF X99 hx hZ hown (host := "") (Or.inl (hw _ (List.mem_of_getElem? (i := 29) rfl))) Via.refl e99 F_contentStart (g := (mkF m 5 #[.val (.ref d)] [(.ref d), (.ref a)])) rfl rfl (hb hby d7_5)
  refine own_st (fr' := (mkF m 8 #[.val (.ref d)] [(.int 4), (.ref a)])) st100 ?_
  refine own_st (fr' := (mkF m 9 #[.val (.ref d)] [(.ref d), (.int 4), (.ref a)])) (fun t k => XS.aloadN X100.here hx rfl (hb hby d7_8) rfl rfl k) ?_
  obtain ⟨T101, X101, e101, st101⟩ := getF X100 hx hZ hown (host := "") (Or.inl (hw _ (List.mem_of_getElem? (i := 31) rfl))) Via.refl e100 F_end (g := (mkF m 9 #[.val (.ref d)] [(.ref d), (.int 4), (.ref a)])) rfl rfl (hb hby d7_9)
  refine own_st (fr' := (mkF m 12 #[.val (.ref d)] [(.int 260), (.int 4), (.ref a)])) st101 ?_
  refine own_callS X101 hx hZ (y := (⟨"java/util/Arrays", "copyOfRange", "([BII)[B"⟩ : MethodName)) hown (hw _ (List.mem_of_getElem? (i := 38) rfl)) (hw _ (List.mem_of_getElem? (i := 39) rfl)) (hw _ (List.mem_of_getElem? (i := 40) rfl)) (hw _ (List.mem_of_getElem? (i := 41) rfl)) (by decide) (argsL := [(.ref a), (.int 4), (.int 260)]) (rest := []) (W := 0) (rm_cr1 l Z a0 hw [] a (4 : Int32) (260 : Int32) (260 : Int32) f h0 n0 Z0 VA EA ⟨by decide, by decide, by decide⟩ (by decide) (by decide)) e101 (by rw [hml]; rfl) (lenOf pd_2 rfl) rfl (Nat.le_of_eq rfl) (hb hby d7_12) (by decide) (by decide) (by decide) (by decide) ?_
  intro v102 T102 L102 X102 hQ102
  obtain ⟨⟨r, g, nl, rfl, hr, hnl, VR, hg⟩, Nq102, K102⟩ := hQ102
  have N102 := Fr.app N0 Nq102
  have enl : nl = (256 : Int32) := Int32.toInt_inj.mp (hnl.trans (by decide))
  subst enl
  exact own_retA X102 hx hlk hret rfl rfl (hb hby d7_15) (by decide) (by decide) (⟨⟨r, g, rfl, hr, VR, fun i hi => hg i (by show (i : Int) < (260 : Int) - 4; omega)⟩, N102, K102⟩)
theorem ef_enc6 (m : MethodId) (d : Addr) : entryFrame m #[(.ref d)] 1 = mkF m 0 #[.val (.ref d)] [] := by first | (simp [entryFrame, mkF, argsToLocals, Value.category, maxLocals]; done) | rfl
def Q_enc6 (Z : State) (d : Addr) (a : Addr) (f : Nat → Value) (h0 : Heap) (n0 : Nat) : Option Value → Heap → List Loc → Prop := fun v h L => (∃ r : Addr, v = some (.ref r) ∧ h0.size ≤ r ∧ own_A Z h r .byte 260 f) ∧ Fr n0 L ∧ Keep h0 h []
set_option maxRecDepth 65536 in
set_option maxHeartbeats 40000000 in
theorem rm_enc6 (l : Launch) (Z : State) (a0 : Array Value) (hw : ∀ d ∈ tables_1, d.before a0 Z = true) (ws : List Jvm.Cond) (d : Addr) (a : Addr) (f : Nat → Value) (h0 : Heap) (n0 : Nat) (Z0 : n0 ≤ h0.size) (F_bytes : Fld Z h0 d "com/example/linkvouch/linkvouch/apk/Der" "bytes" "[B" (.ref a)) (VA : own_A Z h0 a .byte 260 f) (EA : Exa Z h0 a "[B") (F_end : Fld Z h0 d "com/example/linkvouch/linkvouch/apk/Der" "end" "I" (.int 260)) (F_start : Fld Z h0 d "com/example/linkvouch/linkvouch/apk/Der" "start" "I" (.int 0)) :
    MetFree l (⟨"com/example/linkvouch/linkvouch/apk/Der", "encoded", "()[B"⟩ : MethodName) (head1 (Jvm.Cond.code (⟨"com/example/linkvouch/linkvouch/apk/Der", "encoded", "()[B"⟩ : MethodName) prog_30_method_8_code 1 (some (.array .byte)) :: ws) ({ frames := 2, cells := 1, slots := 304, locals := 60 } : Room)) (fun aX U => aX = #[(.ref d)] ∧ Z.Warmed39 U.vm ∧ U.heap = h0) (fun _ _ _ _ _ => True) (fun _ U o U' => ∃ v L, o = .returned v ∧ (Q_enc6 Z d a f h0 n0) v U'.heap L ∧ FrameEnd U o U' L ({ frames := 2, cells := 1, slots := 304, locals := 60 } : Room).cells ({ frames := 2, cells := 1, slots := 304, locals := 60 } : Room).slots) := by
  refine own_met (Q := (Q_enc6 Z d a f h0 n0)) (plainFor_of_name (x := (⟨"com/example/linkvouch/linkvouch/apk/Der", "encoded", "()[B"⟩ : MethodName)) pn_1) (fun m => ef_enc6 m d) ?_
  intro p e s m below meth cD s₁ hx hby hml hret hlk hZ hown hnm X0 e0 hs0
  have hown : s.vm.findClass "com/example/linkvouch/linkvouch/apk/Der" = some m.cls := hown
  have N0 := Fr.nil n0
  refine own_st (fr' := (mkF m 1 #[.val (.ref d)] [(.ref d)])) (fun t k => XS.aloadN X0.here hx rfl (hb hby d12_0) rfl rfl k) ?_
  obtain ⟨T103, X103, e103, st103⟩ := getF X0 hx hZ hown (host := "") (Or.inl (hw _ (List.mem_of_getElem? (i := 23) rfl))) Via.refl e0 F_bytes (g := (mkF m 1 #[.val (.ref d)] [(.ref d)])) rfl rfl (hb hby d12_1)
  refine own_st (fr' := (mkF m 4 #[.val (.ref d)] [(.ref a)])) st103 ?_
  refine own_st (fr' := (mkF m 5 #[.val (.ref d)] [(.ref d), (.ref a)])) (fun t k => XS.aloadN X103.here hx rfl (hb hby d12_4) rfl rfl k) ?_
  obtain ⟨T104, X104, e104, st104⟩ := getF X103 hx hZ hown (host := "") (Or.inl (hw _ (List.mem_of_getElem? (i := 27) rfl))) Via.refl e103 F_start (g := (mkF m 5 #[.val (.ref d)] [(.ref d), (.ref a)])) rfl rfl (hb hby d12_5)
  refine own_st (fr' := (mkF m 8 #[.val (.ref d)] [(.int 0), (.ref a)])) st104 ?_
  refine own_st (fr' := (mkF m 9 #[.val (.ref d)] [(.ref d), (.int 0), (.ref a)])) (fun t k => XS.aloadN X104.here hx rfl (hb hby d12_8) rfl rfl k) ?_
  obtain ⟨T105, X105, e105, st105⟩ := getF X104 hx hZ hown (host := "") (Or.inl (hw _ (List.mem_of_getElem? (i := 31) rfl))) Via.refl e104 F_end (g := (mkF m 9 #[.val (.ref d)] [(.ref d), (.int 0), (.ref a)])) rfl rfl (hb hby d12_9)
  refine own_st (fr' := (mkF m 12 #[.val (.ref d)] [(.int 260), (.int 0), (.ref a)])) st105 ?_
  refine own_callS X105 hx hZ (y := (⟨"java/util/Arrays", "copyOfRange", "([BII)[B"⟩ : MethodName)) hown (hw _ (List.mem_of_getElem? (i := 38) rfl)) (hw _ (List.mem_of_getElem? (i := 39) rfl)) (hw _ (List.mem_of_getElem? (i := 40) rfl)) (hw _ (List.mem_of_getElem? (i := 41) rfl)) (by decide) (argsL := [(.ref a), (.int 0), (.int 260)]) (rest := []) (W := 0) (rm_cr0 l Z a0 hw [] a (260 : Int32) f h0 n0 Z0 VA EA (by decide)) e105 (by rw [hml]; rfl) (lenOf pd_2 rfl) rfl (Nat.le_of_eq rfl) (hb hby d12_12) (by decide) (by decide) (by decide) (by decide) ?_
  intro v106 T106 L106 X106 hQ106
  obtain ⟨⟨r, rfl, hr, VR⟩, Nq106, K106⟩ := hQ106
  have N106 := Fr.app N0 Nq106
  exact own_retA X106 hx hlk hret rfl rfl (hb hby d12_15) (by decide) (by decide) (⟨⟨r, rfl, hr, VR⟩, N106, K106⟩)
theorem d1_56 : decode method_3_code 56 = .ok (.sipush 300, 3) := by decide +kernel
theorem d1_59 : decode method_3_code 59 = .ok (.ireturn, 1) := by decide +kernel
theorem ef_len7 (m : MethodId)  : entryFrame m #[(.int 7)] 1 = mkF m 0 #[oI 7] [] := by first | (simp [entryFrame, mkF, argsToLocals, Value.category, maxLocals]; done) | rfl
def Q_len7 (Z : State)  (h0 : Heap) (n0 : Nat) : Option Value → Heap → List Loc → Prop := fun v h L => v = some (.int 300) ∧ Fr n0 L ∧ h = h0
set_option maxRecDepth 65536 in
set_option maxHeartbeats 40000000 in
theorem rm_len7 (l : Launch) (Z : State) (a0 : Array Value) (hw : ∀ d ∈ tables_1, d.before a0 Z = true) (ws : List Jvm.Cond)  (h0 : Heap) (n0 : Nat) (Z0 : n0 ≤ h0.size)  :
    MetFree l (⟨"com/example/linkvouch/linkvouch/apk/DerParsePinLaw", "lengthOf", "(I)I"⟩ : MethodName) (head1 (Jvm.Cond.code (⟨"com/example/linkvouch/linkvouch/apk/DerParsePinLaw", "lengthOf", "(I)I"⟩ : MethodName) method_3_code 1 (some .int) :: ws) ({ frames := 0, cells := 0, slots := 0, locals := 0 } : Room)) (fun aX U => aX = #[(.int 7)] ∧ Z.Warmed39 U.vm ∧ U.heap = h0) (fun _ _ _ _ _ => True) (fun _ U o U' => ∃ v L, o = .returned v ∧ (Q_len7 Z  h0 n0) v U'.heap L ∧ FrameEnd U o U' L ({ frames := 0, cells := 0, slots := 0, locals := 0 } : Room).cells ({ frames := 0, cells := 0, slots := 0, locals := 0 } : Room).slots) := by
  refine own_met (Q := (Q_len7 Z  h0 n0)) (plainFor_of_name (x := (⟨"com/example/linkvouch/linkvouch/apk/DerParsePinLaw", "lengthOf", "(I)I"⟩ : MethodName)) pn_2) (fun m => ef_len7 m ) ?_
  intro p e s m below meth cD s₁ hx hby hml hret hlk hZ hown hnm X0 e0 hs0
  have hown : s.vm.findClass "com/example/linkvouch/linkvouch/apk/DerParsePinLaw" = some m.cls := hown
  have N0 := Fr.nil n0
  refine own_st (fr' := (mkF m 1 #[oI 7] [(.int 7)])) (fun t k => XS.iloadN X0.here hx rfl (hb hby d1_0) rfl  k) ?_
  refine own_st (fr' := (mkF m 6 #[oI 7] [])) (fun t k => XS.ifYes X0.here hx rfl (pc0 := 1) (pc' := 6) rfl (hb hby d1_1) rfl ((if0 _ _).trans (own_feq (x := (7 : Int32)) (y := (0 : Int32)) (show ¬ 7 = 0 from by decide)).2) (by decide) (by decide) k) ?_
  refine own_st (fr' := (mkF m 7 #[oI 7] [(.int 7)])) (fun t k => XS.iloadN X0.here hx rfl (hb hby d1_6) rfl  k) ?_
  refine own_st (fr' := (mkF m 8 #[oI 7] [(.int 1), (.int 7)])) (fun t k => XS.iconst X0.here hx rfl (hb hby d1_7) k) ?_
  refine own_st (fr' := (mkF m 13 #[oI 7] [])) (fun t k => XS.icmpYes X0.here hx rfl (pc0 := 8) (pc' := 13) rfl (hb hby d1_8) rfl (own_feq (x := (7 : Int32)) (y := (1 : Int32)) (show ¬ 7 = 1 from by decide)).2 (by decide) (by decide) k) ?_
  refine own_st (fr' := (mkF m 14 #[oI 7] [(.int 7)])) (fun t k => XS.iloadN X0.here hx rfl (hb hby d1_13) rfl  k) ?_
  refine own_st (fr' := (mkF m 15 #[oI 7] [(.int 2), (.int 7)])) (fun t k => XS.iconst X0.here hx rfl (hb hby d1_14) k) ?_
  refine own_st (fr' := (mkF m 20 #[oI 7] [])) (fun t k => XS.icmpYes X0.here hx rfl (pc0 := 15) (pc' := 20) rfl (hb hby d1_15) rfl (own_feq (x := (7 : Int32)) (y := (2 : Int32)) (show ¬ 7 = 2 from by decide)).2 (by decide) (by decide) k) ?_
  refine own_st (fr' := (mkF m 21 #[oI 7] [(.int 7)])) (fun t k => XS.iloadN X0.here hx rfl (hb hby d1_20) rfl  k) ?_
  refine own_st (fr' := (mkF m 22 #[oI 7] [(.int 3), (.int 7)])) (fun t k => XS.iconst X0.here hx rfl (hb hby d1_21) k) ?_
  refine own_st (fr' := (mkF m 28 #[oI 7] [])) (fun t k => XS.icmpYes X0.here hx rfl (pc0 := 22) (pc' := 28) rfl (hb hby d1_22) rfl (own_feq (x := (7 : Int32)) (y := (3 : Int32)) (show ¬ 7 = 3 from by decide)).2 (by decide) (by decide) k) ?_
  refine own_st (fr' := (mkF m 29 #[oI 7] [(.int 7)])) (fun t k => XS.iloadN X0.here hx rfl (hb hby d1_28) rfl  k) ?_
  refine own_st (fr' := (mkF m 30 #[oI 7] [(.int 4), (.int 7)])) (fun t k => XS.iconst X0.here hx rfl (hb hby d1_29) k) ?_
  refine own_st (fr' := (mkF m 37 #[oI 7] [])) (fun t k => XS.icmpYes X0.here hx rfl (pc0 := 30) (pc' := 37) rfl (hb hby d1_30) rfl (own_feq (x := (7 : Int32)) (y := (4 : Int32)) (show ¬ 7 = 4 from by decide)).2 (by decide) (by decide) k) ?_
  refine own_st (fr' := (mkF m 38 #[oI 7] [(.int 7)])) (fun t k => XS.iloadN X0.here hx rfl (hb hby d1_37) rfl  k) ?_
  refine own_st (fr' := (mkF m 39 #[oI 7] [(.int 5), (.int 7)])) (fun t k => XS.iconst X0.here hx rfl (hb hby d1_38) k) ?_
  refine own_st (fr' := (mkF m 46 #[oI 7] [])) (fun t k => XS.icmpYes X0.here hx rfl (pc0 := 39) (pc' := 46) rfl (hb hby d1_39) rfl (own_feq (x := (7 : Int32)) (y := (5 : Int32)) (show ¬ 7 = 5 from by decide)).2 (by decide) (by decide) k) ?_
  refine own_st (fr' := (mkF m 47 #[oI 7] [(.int 7)])) (fun t k => XS.iloadN X0.here hx rfl (hb hby d1_46) rfl  k) ?_
  refine own_st (fr' := (mkF m 49 #[oI 7] [(.int 6), (.int 7)])) (fun t k => XS.bipush X0.here hx rfl (hb hby d1_47) k) ?_
  refine own_st (fr' := (mkF m 56 #[oI 7] [])) (fun t k => XS.icmpYes X0.here hx rfl (pc0 := 49) (pc' := 56) rfl (hb hby d1_49) rfl (own_feq (x := (7 : Int32)) (y := (6 : Int32)) (show ¬ 7 = 6 from by decide)).2 (by decide) (by decide) k) ?_
  refine own_st (fr' := (mkF m 59 #[oI 7] [(.int 300)])) (fun t k => XS.sipush X0.here hx rfl (hb hby d1_56) k) ?_
  exact own_retI X0 hx hlk hret (hb hby d1_59) (by decide) (by decide) (⟨rfl, N0, e0⟩)
theorem d2_71 : decode method_2_code 71 = .ok (.sipush 304, 3) := by decide +kernel
theorem d2_74 : decode method_2_code 74 = .ok (.newarray .byte, 2) := by decide +kernel
theorem d2_76 : decode method_2_code 76 = .ok (.areturn, 1) := by decide +kernel
theorem ef_alloc7 (m : MethodId)  : entryFrame m #[(.int 7)] 1 = mkF m 0 #[oI 7] [] := by first | (simp [entryFrame, mkF, argsToLocals, Value.category, maxLocals]; done) | rfl
def Q_alloc7 (Z : State)  (h0 : Heap) (n0 : Nat) : Option Value → Heap → List Loc → Prop := fun v h L => (∃ r : Addr, v = some (.ref r) ∧ h0.size ≤ r ∧ n0 ≤ r ∧ own_A Z h r .byte 304 (fun _ => .int 0) ∧ Exa Z h r "[B") ∧ Fr n0 L ∧ Keep h0 h []
set_option maxRecDepth 65536 in
set_option maxHeartbeats 40000000 in
theorem rm_alloc7 (l : Launch) (Z : State) (a0 : Array Value) (hw : ∀ d ∈ tables_1, d.before a0 Z = true) (ws : List Jvm.Cond)  (h0 : Heap) (n0 : Nat) (Z0 : n0 ≤ h0.size)  :
    MetFree l (⟨"com/example/linkvouch/linkvouch/apk/DerParsePinLaw", "alloc", "(I)[B"⟩ : MethodName) (head1 (Jvm.Cond.code (⟨"com/example/linkvouch/linkvouch/apk/DerParsePinLaw", "alloc", "(I)[B"⟩ : MethodName) method_2_code 1 (some (.array .byte)) :: ws) ({ frames := 0, cells := 1, slots := 304, locals := 0 } : Room)) (fun aX U => aX = #[(.int 7)] ∧ Z.Warmed39 U.vm ∧ U.heap = h0) (fun _ _ _ _ _ => True) (fun _ U o U' => ∃ v L, o = .returned v ∧ (Q_alloc7 Z  h0 n0) v U'.heap L ∧ FrameEnd U o U' L ({ frames := 0, cells := 1, slots := 304, locals := 0 } : Room).cells ({ frames := 0, cells := 1, slots := 304, locals := 0 } : Room).slots) := by
  refine own_met (Q := (Q_alloc7 Z  h0 n0)) (plainFor_of_name (x := (⟨"com/example/linkvouch/linkvouch/apk/DerParsePinLaw", "alloc", "(I)[B"⟩ : MethodName)) pn_2) (fun m => ef_alloc7 m ) ?_
  intro p e s m below meth cD s₁ hx hby hml hret hlk hZ hown hnm X0 e0 hs0
  have hown : s.vm.findClass "com/example/linkvouch/linkvouch/apk/DerParsePinLaw" = some m.cls := hown
  have N0 := Fr.nil n0
  refine own_st (fr' := (mkF m 1 #[oI 7] [(.int 7)])) (fun t k => XS.iloadN X0.here hx rfl (hb hby d2_0) rfl  k) ?_
  refine own_st (fr' := (mkF m 8 #[oI 7] [])) (fun t k => XS.ifYes X0.here hx rfl (pc0 := 1) (pc' := 8) rfl (hb hby d2_1) rfl ((if0 _ _).trans (own_feq (x := (7 : Int32)) (y := (0 : Int32)) (show ¬ 7 = 0 from by decide)).2) (by decide) (by decide) k) ?_
  refine own_st (fr' := (mkF m 9 #[oI 7] [(.int 7)])) (fun t k => XS.iloadN X0.here hx rfl (hb hby d2_8) rfl  k) ?_
  refine own_st (fr' := (mkF m 10 #[oI 7] [(.int 1), (.int 7)])) (fun t k => XS.iconst X0.here hx rfl (hb hby d2_9) k) ?_
  refine own_st (fr' := (mkF m 17 #[oI 7] [])) (fun t k => XS.icmpYes X0.here hx rfl (pc0 := 10) (pc' := 17) rfl (hb hby d2_10) rfl (own_feq (x := (7 : Int32)) (y := (1 : Int32)) (show ¬ 7 = 1 from by decide)).2 (by decide) (by decide) k) ?_
  refine own_st (fr' := (mkF m 18 #[oI 7] [(.int 7)])) (fun t k => XS.iloadN X0.here hx rfl (hb hby d2_17) rfl  k) ?_
  refine own_st (fr' := (mkF m 19 #[oI 7] [(.int 2), (.int 7)])) (fun t k => XS.iconst X0.here hx rfl (hb hby d2_18) k) ?_
  refine own_st (fr' := (mkF m 26 #[oI 7] [])) (fun t k => XS.icmpYes X0.here hx rfl (pc0 := 19) (pc' := 26) rfl (hb hby d2_19) rfl (own_feq (x := (7 : Int32)) (y := (2 : Int32)) (show ¬ 7 = 2 from by decide)).2 (by decide) (by decide) k) ?_
  refine own_st (fr' := (mkF m 27 #[oI 7] [(.int 7)])) (fun t k => XS.iloadN X0.here hx rfl (hb hby d2_26) rfl  k) ?_
  refine own_st (fr' := (mkF m 28 #[oI 7] [(.int 3), (.int 7)])) (fun t k => XS.iconst X0.here hx rfl (hb hby d2_27) k) ?_
  refine own_st (fr' := (mkF m 37 #[oI 7] [])) (fun t k => XS.icmpYes X0.here hx rfl (pc0 := 28) (pc' := 37) rfl (hb hby d2_28) rfl (own_feq (x := (7 : Int32)) (y := (3 : Int32)) (show ¬ 7 = 3 from by decide)).2 (by decide) (by decide) k) ?_
  refine own_st (fr' := (mkF m 38 #[oI 7] [(.int 7)])) (fun t k => XS.iloadN X0.here hx rfl (hb hby d2_37) rfl  k) ?_
  refine own_st (fr' := (mkF m 39 #[oI 7] [(.int 4), (.int 7)])) (fun t k => XS.iconst X0.here hx rfl (hb hby d2_38) k) ?_
  refine own_st (fr' := (mkF m 48 #[oI 7] [])) (fun t k => XS.icmpYes X0.here hx rfl (pc0 := 39) (pc' := 48) rfl (hb hby d2_39) rfl (own_feq (x := (7 : Int32)) (y := (4 : Int32)) (show ¬ 7 = 4 from by decide)).2 (by decide) (by decide) k) ?_
  refine own_st (fr' := (mkF m 49 #[oI 7] [(.int 7)])) (fun t k => XS.iloadN X0.here hx rfl (hb hby d2_48) rfl  k) ?_
  refine own_st (fr' := (mkF m 50 #[oI 7] [(.int 5), (.int 7)])) (fun t k => XS.iconst X0.here hx rfl (hb hby d2_49) k) ?_
  refine own_st (fr' := (mkF m 59 #[oI 7] [])) (fun t k => XS.icmpYes X0.here hx rfl (pc0 := 50) (pc' := 59) rfl (hb hby d2_50) rfl (own_feq (x := (7 : Int32)) (y := (5 : Int32)) (show ¬ 7 = 5 from by decide)).2 (by decide) (by decide) k) ?_
  refine own_st (fr' := (mkF m 60 #[oI 7] [(.int 7)])) (fun t k => XS.iloadN X0.here hx rfl (hb hby d2_59) rfl  k) ?_
  refine own_st (fr' := (mkF m 62 #[oI 7] [(.int 6), (.int 7)])) (fun t k => XS.bipush X0.here hx rfl (hb hby d2_60) k) ?_
  refine own_st (fr' := (mkF m 71 #[oI 7] [])) (fun t k => XS.icmpYes X0.here hx rfl (pc0 := 62) (pc' := 71) rfl (hb hby d2_62) rfl (own_feq (x := (7 : Int32)) (y := (6 : Int32)) (show ¬ 7 = 6 from by decide)).2 (by decide) (by decide) k) ?_
  refine own_st (fr' := (mkF m 74 #[oI 7] [(.int 304)])) (fun t k => XS.sipush X0.here hx rfl (hb hby d2_71) k) ?_
  refine own_newarrE X0 hx hZ (hw _ (List.mem_of_getElem? (i := 7) rfl)) e0 (hb hby d2_74) (by decide) (cap := 304) (by decide) (by decide) (by decide) (by decide) rfl (C := "[B") rfl ?_
  intro T107 h107 b107 g107 X107 e107 E107 VA107 EX107
  have V107 := own_B.new VA107
  have ge_b107 : n0 ≤ b107 := Nat.le_trans Z0 (Nat.le_of_eq g107.symm)
  have sz_b107 : h0.size ≤ b107 := Nat.le_trans (Nat.le_refl _) (Nat.le_of_eq g107.symm)
  exact own_retA X107 hx hlk hret rfl rfl (hb hby d2_76) (by decide) (by decide) (by rw [e107]; exact ⟨⟨b107, rfl, sz_b107, ge_b107, VA107, EX107⟩, N0, (Keep.ext (Keep.refl h0 []) E107)⟩)
theorem ef_read7 (m : MethodId) (a : Addr) : entryFrame m #[(.ref a), (.int 0), (.int 304)] 10 = mkF m 0 #[.val (.ref a), oI 0, oI 304, .unset, .unset, .unset, .unset, .unset, .unset, .unset] [] := by first | (simp [entryFrame, mkF, argsToLocals, Value.category, maxLocals]; done) | rfl
def Q_read7 (Z : State) (a : Addr) (t' : Int32) (f : Nat → Value) (h0 : Heap) (n0 : Nat) : Option Value → Heap → List Loc → Prop := fun v h L => (∃ d : Addr, v = some (.ref d) ∧ h0.size ≤ d ∧ Exa Z h d "com/example/linkvouch/linkvouch/apk/Der" ∧ Fld Z h d "com/example/linkvouch/linkvouch/apk/Der" "bytes" "[B" (.ref a) ∧ Fld Z h d "com/example/linkvouch/linkvouch/apk/Der" "tag" "I" (.int (t' &&& 255)) ∧ Fld Z h d "com/example/linkvouch/linkvouch/apk/Der" "start" "I" (.int 0) ∧ Fld Z h d "com/example/linkvouch/linkvouch/apk/Der" "contentStart" "I" (.int 4) ∧ Fld Z h d "com/example/linkvouch/linkvouch/apk/Der" "end" "I" (.int 304)) ∧ Fr n0 L ∧ Keep h0 h []
set_option maxRecDepth 65536 in
set_option maxHeartbeats 40000000 in
theorem rm_read7 (l : Launch) (Z : State) (a0 : Array Value) (hw : ∀ d ∈ tables_1, d.before a0 Z = true) (ws : List Jvm.Cond) (a : Addr) (t' : Int32) (f : Nat → Value) (h0 : Heap) (n0 : Nat) (Z0 : n0 ≤ h0.size) (VA : own_A Z h0 a .byte 304 f) (h_0 : f 0 = .int t') (h_1 : f 1 = .int (-126)) (h_2 : f 2 = .int (1)) (h_3 : f 3 = .int (44)) (htag : ¬ ((t' &&& 255) &&& 31).toInt = 31) :
    MetFree l (⟨"com/example/linkvouch/linkvouch/apk/Der", "read", "([BII)Lcom/example/linkvouch/linkvouch/apk/Der;"⟩ : MethodName) (head1 (Jvm.Cond.code (⟨"com/example/linkvouch/linkvouch/apk/Der", "read", "([BII)Lcom/example/linkvouch/linkvouch/apk/Der;"⟩ : MethodName) prog_30_method_3_code 10 (some (.object "com/example/linkvouch/linkvouch/apk/Der")) :: ws) ({ frames := 2, cells := 1, slots := 5, locals := 40 } : Room)) (fun aX U => aX = #[(.ref a), (.int 0), (.int 304)] ∧ Z.Warmed39 U.vm ∧ U.heap = h0) (fun _ _ _ _ _ => True) (fun _ U o U' => ∃ v L, o = .returned v ∧ (Q_read7 Z a t' f h0 n0) v U'.heap L ∧ FrameEnd U o U' L ({ frames := 2, cells := 1, slots := 5, locals := 40 } : Room).cells ({ frames := 2, cells := 1, slots := 5, locals := 40 } : Room).slots) := by
  refine own_met (Q := (Q_read7 Z a t' f h0 n0)) (plainFor_of_name (x := (⟨"com/example/linkvouch/linkvouch/apk/Der", "read", "([BII)Lcom/example/linkvouch/linkvouch/apk/Der;"⟩ : MethodName)) pn_1) (fun m => ef_read7 m a) ?_
  intro p e s m below meth cD s₁ hx hby hml hret hlk hZ hown hnm X0 e0 hs0
  have hown : s.vm.findClass "com/example/linkvouch/linkvouch/apk/Der" = some m.cls := hown
  have N0 := Fr.nil n0
  refine own_st (fr' := (mkF m 1 #[.val (.ref a), oI 0, oI 304, .unset, .unset, .unset, .unset, .unset, .unset, .unset] [(.int 304)])) (fun t k => XS.iloadN X0.here hx rfl (hb hby d4_0) rfl  k) ?_
  refine own_st (fr' := (mkF m 2 #[.val (.ref a), oI 0, oI 304, .unset, .unset, .unset, .unset, .unset, .unset, .unset] [(.int 0), (.int 304)])) (fun t k => XS.iloadN X0.here hx rfl (hb hby d4_1) rfl  k) ?_
  refine own_st (fr' := (mkF m 3 #[.val (.ref a), oI 0, oI 304, .unset, .unset, .unset, .unset, .unset, .unset, .unset] [(.int 304)])) (fun t k => XS.isub X0.here hx rfl (hb hby d4_2) rfl k) ?_
  refine own_st (fr' := (mkF m 4 #[.val (.ref a), oI 0, oI 304, .unset, .unset, .unset, .unset, .unset, .unset, .unset] [(.int 2), (.int 304)])) (fun t k => XS.iconst X0.here hx rfl (hb hby d4_3) k) ?_
  refine own_st (fr' := (mkF m 17 #[.val (.ref a), oI 0, oI 304, .unset, .unset, .unset, .unset, .unset, .unset, .unset] [])) (fun t k => XS.icmpYes X0.here hx rfl (pc0 := 4) (pc' := 17) rfl (hb hby d4_4) rfl (own_flt (x := (304 : Int32)) (y := (2 : Int32)) (show ¬ 304 < 2 from by decide)).2.1 (by decide) (by decide) k) ?_
  refine own_st (fr' := (mkF m 18 #[.val (.ref a), oI 0, oI 304, .unset, .unset, .unset, .unset, .unset, .unset, .unset] [(.ref a)])) (fun t k => XS.aloadN X0.here hx rfl (hb hby d4_17) rfl rfl k) ?_
  refine own_st (fr' := (mkF m 19 #[.val (.ref a), oI 0, oI 304, .unset, .unset, .unset, .unset, .unset, .unset, .unset] [(.int 0), (.ref a)])) (fun t k => XS.iloadN X0.here hx rfl (hb hby d4_18) rfl  k) ?_
  refine own_baload (j := (0 : Int32)) X0 hx hZ e0 VA (by decide) (by decide) (v := (.int t')) (h_0) (hb hby d4_19) ?_
  refine own_st (fr' := (mkF m 23 #[.val (.ref a), oI 0, oI 304, .unset, .unset, .unset, .unset, .unset, .unset, .unset] [(.int 255), (.int t')])) (fun t k => XS.sipush X0.here hx rfl (hb hby d4_20) k) ?_
  refine own_st (fr' := (mkF m 24 #[.val (.ref a), oI 0, oI 304, .unset, .unset, .unset, .unset, .unset, .unset, .unset] [(.int (t' &&& (255 : Int32)))])) (fun t k => XS.iand X0.here hx rfl (hb hby d4_23) rfl k) ?_
  refine own_st (fr' := (mkF m 25 #[.val (.ref a), oI 0, oI 304, .val (.int (t' &&& (255 : Int32))), .unset, .unset, .unset, .unset, .unset, .unset] [])) (fun t k => XS.istoreN X0.here hx rfl (hb hby d4_24) rfl  (l' := #[.val (.ref a), oI 0, oI 304, .val (.int (t' &&& (255 : Int32))), .unset, .unset, .unset, .unset, .unset, .unset]) rfl k) ?_
  refine own_st (fr' := (mkF m 26 #[.val (.ref a), oI 0, oI 304, .val (.int (t' &&& (255 : Int32))), .unset, .unset, .unset, .unset, .unset, .unset] [(.int (t' &&& (255 : Int32)))])) (fun t k => XS.iloadN X0.here hx rfl (hb hby d4_25) rfl  k) ?_
  refine own_st (fr' := (mkF m 28 #[.val (.ref a), oI 0, oI 304, .val (.int (t' &&& (255 : Int32))), .unset, .unset, .unset, .unset, .unset, .unset] [(.int 31), (.int (t' &&& (255 : Int32)))])) (fun t k => XS.bipush X0.here hx rfl (hb hby d4_26) k) ?_
  refine own_st (fr' := (mkF m 29 #[.val (.ref a), oI 0, oI 304, .val (.int (t' &&& (255 : Int32))), .unset, .unset, .unset, .unset, .unset, .unset] [(.int ((t' &&& (255 : Int32)) &&& (31 : Int32)))])) (fun t k => XS.iand X0.here hx rfl (hb hby d4_28) rfl k) ?_
  refine own_st (fr' := (mkF m 31 #[.val (.ref a), oI 0, oI 304, .val (.int (t' &&& (255 : Int32))), .unset, .unset, .unset, .unset, .unset, .unset] [(.int 31), (.int ((t' &&& (255 : Int32)) &&& (31 : Int32)))])) (fun t k => XS.bipush X0.here hx rfl (hb hby d4_29) k) ?_
  refine own_st (fr' := (mkF m 44 #[.val (.ref a), oI 0, oI 304, .val (.int (t' &&& (255 : Int32))), .unset, .unset, .unset, .unset, .unset, .unset] [])) (fun t k => XS.icmpYes X0.here hx rfl (pc0 := 31) (pc' := 44) rfl (hb hby d4_31) rfl (own_feq (x := ((t' &&& (255 : Int32)) &&& (31 : Int32))) (y := (31 : Int32)) (show ¬ ((t' &&& (255 : Int32)) &&& (31 : Int32)).toInt = 31 from htag)).2 (by decide) (by decide) k) ?_
  refine own_st (fr' := (mkF m 45 #[.val (.ref a), oI 0, oI 304, .val (.int (t' &&& (255 : Int32))), .unset, .unset, .unset, .unset, .unset, .unset] [(.ref a)])) (fun t k => XS.aloadN X0.here hx rfl (hb hby d4_44) rfl rfl k) ?_
  refine own_st (fr' := (mkF m 46 #[.val (.ref a), oI 0, oI 304, .val (.int (t' &&& (255 : Int32))), .unset, .unset, .unset, .unset, .unset, .unset] [(.int 0), (.ref a)])) (fun t k => XS.iloadN X0.here hx rfl (hb hby d4_45) rfl  k) ?_
  refine own_st (fr' := (mkF m 47 #[.val (.ref a), oI 0, oI 304, .val (.int (t' &&& (255 : Int32))), .unset, .unset, .unset, .unset, .unset, .unset] [(.int 1), (.int 0), (.ref a)])) (fun t k => XS.iconst X0.here hx rfl (hb hby d4_46) k) ?_
  refine own_st (fr' := (mkF m 48 #[.val (.ref a), oI 0, oI 304, .val (.int (t' &&& (255 : Int32))), .unset, .unset, .unset, .unset, .unset, .unset] [(.int 1), (.ref a)])) (fun t k => XS.iadd X0.here hx rfl (hb hby d4_47) rfl k) ?_
  refine own_baload (j := (1 : Int32)) X0 hx hZ e0 VA (by decide) (by decide) (v := (.int (-126 : Int32))) (h_1) (hb hby d4_48) ?_
  refine own_st (fr' := (mkF m 52 #[.val (.ref a), oI 0, oI 304, .val (.int (t' &&& (255 : Int32))), .unset, .unset, .unset, .unset, .unset, .unset] [(.int 255), (.int (-126 : Int32))])) (fun t k => XS.sipush X0.here hx rfl (hb hby d4_49) k) ?_
  refine own_st (fr' := (mkF m 53 #[.val (.ref a), oI 0, oI 304, .val (.int (t' &&& (255 : Int32))), .unset, .unset, .unset, .unset, .unset, .unset] [(.int 130)])) (fun t k => XS.iand X0.here hx rfl (hb hby d4_52) rfl k) ?_
  refine own_st (fr' := (mkF m 55 #[.val (.ref a), oI 0, oI 304, .val (.int (t' &&& (255 : Int32))), oI 130, .unset, .unset, .unset, .unset, .unset] [])) (fun t k => XS.istore X0.here hx rfl (hb hby d4_53) rfl  (l' := #[.val (.ref a), oI 0, oI 304, .val (.int (t' &&& (255 : Int32))), oI 130, .unset, .unset, .unset, .unset, .unset]) rfl k) ?_
  refine own_st (fr' := (mkF m 56 #[.val (.ref a), oI 0, oI 304, .val (.int (t' &&& (255 : Int32))), oI 130, .unset, .unset, .unset, .unset, .unset] [(.int 0)])) (fun t k => XS.iloadN X0.here hx rfl (hb hby d4_55) rfl  k) ?_
  refine own_st (fr' := (mkF m 57 #[.val (.ref a), oI 0, oI 304, .val (.int (t' &&& (255 : Int32))), oI 130, .unset, .unset, .unset, .unset, .unset] [(.int 2), (.int 0)])) (fun t k => XS.iconst X0.here hx rfl (hb hby d4_56) k) ?_
  refine own_st (fr' := (mkF m 58 #[.val (.ref a), oI 0, oI 304, .val (.int (t' &&& (255 : Int32))), oI 130, .unset, .unset, .unset, .unset, .unset] [(.int 2)])) (fun t k => XS.iadd X0.here hx rfl (hb hby d4_57) rfl k) ?_
  refine own_st (fr' := (mkF m 60 #[.val (.ref a), oI 0, oI 304, .val (.int (t' &&& (255 : Int32))), oI 130, oI 2, .unset, .unset, .unset, .unset] [])) (fun t k => XS.istore X0.here hx rfl (hb hby d4_58) rfl  (l' := #[.val (.ref a), oI 0, oI 304, .val (.int (t' &&& (255 : Int32))), oI 130, oI 2, .unset, .unset, .unset, .unset]) rfl k) ?_
  refine own_st (fr' := (mkF m 62 #[.val (.ref a), oI 0, oI 304, .val (.int (t' &&& (255 : Int32))), oI 130, oI 2, .unset, .unset, .unset, .unset] [(.int 130)])) (fun t k => XS.iload X0.here hx rfl (hb hby d4_60) rfl  k) ?_
  refine own_st (fr' := (mkF m 63 #[.val (.ref a), oI 0, oI 304, .val (.int (t' &&& (255 : Int32))), oI 130, oI 2, .unset, .unset, .unset, .unset] [(.long (130 : Int64))])) (fun t k => XS.i2l X0.here hx rfl (hb hby d4_62) rfl k) ?_
  refine own_st (fr' := (mkF m 65 #[.val (.ref a), oI 0, oI 304, .val (.int (t' &&& (255 : Int32))), oI 130, oI 2, .val (.long (130 : Int64)), .second, .unset, .unset] [])) (fun t k => XS.lstore X0.here hx rfl (hb hby d4_63) rfl  (l' := #[.val (.ref a), oI 0, oI 304, .val (.int (t' &&& (255 : Int32))), oI 130, oI 2, .val (.long (130 : Int64)), .second, .unset, .unset]) rfl k) ?_
  refine own_st (fr' := (mkF m 67 #[.val (.ref a), oI 0, oI 304, .val (.int (t' &&& (255 : Int32))), oI 130, oI 2, .val (.long (130 : Int64)), .second, .unset, .unset] [(.int 130)])) (fun t k => XS.iload X0.here hx rfl (hb hby d4_65) rfl  k) ?_
  refine own_st (fr' := (mkF m 70 #[.val (.ref a), oI 0, oI 304, .val (.int (t' &&& (255 : Int32))), oI 130, oI 2, .val (.long (130 : Int64)), .second, .unset, .unset] [(.int 128), (.int 130)])) (fun t k => XS.sipush X0.here hx rfl (hb hby d4_67) k) ?_
  refine own_st (fr' := (mkF m 73 #[.val (.ref a), oI 0, oI 304, .val (.int (t' &&& (255 : Int32))), oI 130, oI 2, .val (.long (130 : Int64)), .second, .unset, .unset] [])) (fun t k => XS.icmpNo X0.here hx rfl (hb hby d4_70) rfl (own_flt (x := (130 : Int32)) (y := (128 : Int32)) (show ¬ 130 < 128 from by decide)).1 k) ?_
  refine own_st (fr' := (mkF m 75 #[.val (.ref a), oI 0, oI 304, .val (.int (t' &&& (255 : Int32))), oI 130, oI 2, .val (.long (130 : Int64)), .second, .unset, .unset] [(.int 130)])) (fun t k => XS.iload X0.here hx rfl (hb hby d4_73) rfl  k) ?_
  refine own_st (fr' := (mkF m 77 #[.val (.ref a), oI 0, oI 304, .val (.int (t' &&& (255 : Int32))), oI 130, oI 2, .val (.long (130 : Int64)), .second, .unset, .unset] [(.int 127), (.int 130)])) (fun t k => XS.bipush X0.here hx rfl (hb hby d4_75) k) ?_
  refine own_st (fr' := (mkF m 78 #[.val (.ref a), oI 0, oI 304, .val (.int (t' &&& (255 : Int32))), oI 130, oI 2, .val (.long (130 : Int64)), .second, .unset, .unset] [(.int 2)])) (fun t k => XS.iand X0.here hx rfl (hb hby d4_77) rfl k) ?_
  refine own_st (fr' := (mkF m 80 #[.val (.ref a), oI 0, oI 304, .val (.int (t' &&& (255 : Int32))), oI 130, oI 2, .val (.long (130 : Int64)), .second, oI 2, .unset] [])) (fun t k => XS.istore X0.here hx rfl (hb hby d4_78) rfl  (l' := #[.val (.ref a), oI 0, oI 304, .val (.int (t' &&& (255 : Int32))), oI 130, oI 2, .val (.long (130 : Int64)), .second, oI 2, .unset]) rfl k) ?_
  refine own_st (fr' := (mkF m 82 #[.val (.ref a), oI 0, oI 304, .val (.int (t' &&& (255 : Int32))), oI 130, oI 2, .val (.long (130 : Int64)), .second, oI 2, .unset] [(.int 2)])) (fun t k => XS.iload X0.here hx rfl (hb hby d4_80) rfl  k) ?_
  refine own_st (fr' := (mkF m 85 #[.val (.ref a), oI 0, oI 304, .val (.int (t' &&& (255 : Int32))), oI 130, oI 2, .val (.long (130 : Int64)), .second, oI 2, .unset] [])) (fun t k => XS.ifNo X0.here hx rfl (hb hby d4_82) rfl ((if0 _ _).trans (own_feq (x := (2 : Int32)) (y := (0 : Int32)) (show ¬ 2 = 0 from by decide)).1) k) ?_
  refine own_st (fr' := (mkF m 87 #[.val (.ref a), oI 0, oI 304, .val (.int (t' &&& (255 : Int32))), oI 130, oI 2, .val (.long (130 : Int64)), .second, oI 2, .unset] [(.int 2)])) (fun t k => XS.iload X0.here hx rfl (hb hby d4_85) rfl  k) ?_
  refine own_st (fr' := (mkF m 88 #[.val (.ref a), oI 0, oI 304, .val (.int (t' &&& (255 : Int32))), oI 130, oI 2, .val (.long (130 : Int64)), .second, oI 2, .unset] [(.int 4), (.int 2)])) (fun t k => XS.iconst X0.here hx rfl (hb hby d4_87) k) ?_
  refine own_st (fr' := (mkF m 91 #[.val (.ref a), oI 0, oI 304, .val (.int (t' &&& (255 : Int32))), oI 130, oI 2, .val (.long (130 : Int64)), .second, oI 2, .unset] [])) (fun t k => XS.icmpNo X0.here hx rfl (hb hby d4_88) rfl (own_flt (x := (4 : Int32)) (y := (2 : Int32)) (show ¬ 4 < 2 from by decide)).2.2.1 k) ?_
  refine own_st (fr' := (mkF m 93 #[.val (.ref a), oI 0, oI 304, .val (.int (t' &&& (255 : Int32))), oI 130, oI 2, .val (.long (130 : Int64)), .second, oI 2, .unset] [(.int 2)])) (fun t k => XS.iload X0.here hx rfl (hb hby d4_91) rfl  k) ?_
  refine own_st (fr' := (mkF m 94 #[.val (.ref a), oI 0, oI 304, .val (.int (t' &&& (255 : Int32))), oI 130, oI 2, .val (.long (130 : Int64)), .second, oI 2, .unset] [(.int 304), (.int 2)])) (fun t k => XS.iloadN X0.here hx rfl (hb hby d4_93) rfl  k) ?_
  refine own_st (fr' := (mkF m 96 #[.val (.ref a), oI 0, oI 304, .val (.int (t' &&& (255 : Int32))), oI 130, oI 2, .val (.long (130 : Int64)), .second, oI 2, .unset] [(.int 2), (.int 304), (.int 2)])) (fun t k => XS.iload X0.here hx rfl (hb hby d4_94) rfl  k) ?_
  refine own_st (fr' := (mkF m 97 #[.val (.ref a), oI 0, oI 304, .val (.int (t' &&& (255 : Int32))), oI 130, oI 2, .val (.long (130 : Int64)), .second, oI 2, .unset] [(.int 302), (.int 2)])) (fun t k => XS.isub X0.here hx rfl (hb hby d4_96) rfl k) ?_
  refine own_st (fr' := (mkF m 110 #[.val (.ref a), oI 0, oI 304, .val (.int (t' &&& (255 : Int32))), oI 130, oI 2, .val (.long (130 : Int64)), .second, oI 2, .unset] [])) (fun t k => XS.icmpYes X0.here hx rfl (pc0 := 97) (pc' := 110) rfl (hb hby d4_97) rfl (own_flt (x := (302 : Int32)) (y := (2 : Int32)) (show ¬ 302 < 2 from by decide)).2.2.2 (by decide) (by decide) k) ?_
  refine own_st (fr' := (mkF m 111 #[.val (.ref a), oI 0, oI 304, .val (.int (t' &&& (255 : Int32))), oI 130, oI 2, .val (.long (130 : Int64)), .second, oI 2, .unset] [(.long (0 : Int64))])) (fun t k => XS.lconst X0.here hx rfl (hb hby d4_110) k) ?_
  refine own_st (fr' := (mkF m 113 #[.val (.ref a), oI 0, oI 304, .val (.int (t' &&& (255 : Int32))), oI 130, oI 2, .val (.long (0 : Int64)), .second, oI 2, .unset] [])) (fun t k => XS.lstore X0.here hx rfl (hb hby d4_111) rfl  (l' := #[.val (.ref a), oI 0, oI 304, .val (.int (t' &&& (255 : Int32))), oI 130, oI 2, .val (.long (0 : Int64)), .second, oI 2, .unset]) rfl k) ?_
  refine own_st (fr' := (mkF m 114 #[.val (.ref a), oI 0, oI 304, .val (.int (t' &&& (255 : Int32))), oI 130, oI 2, .val (.long (0 : Int64)), .second, oI 2, .unset] [(.int 0)])) (fun t k => XS.iconst X0.here hx rfl (hb hby d4_113) k) ?_
  refine own_st (fr' := (mkF m 116 #[.val (.ref a), oI 0, oI 304, .val (.int (t' &&& (255 : Int32))), oI 130, oI 2, .val (.long (0 : Int64)), .second, oI 2, oI 0] [])) (fun t k => XS.istore X0.here hx rfl (hb hby d4_114) rfl  (l' := #[.val (.ref a), oI 0, oI 304, .val (.int (t' &&& (255 : Int32))), oI 130, oI 2, .val (.long (0 : Int64)), .second, oI 2, oI 0]) rfl k) ?_
  refine own_st (fr' := (mkF m 118 #[.val (.ref a), oI 0, oI 304, .val (.int (t' &&& (255 : Int32))), oI 130, oI 2, .val (.long (0 : Int64)), .second, oI 2, oI 0] [(.int 0)])) (fun t k => XS.iload X0.here hx rfl (hb hby d4_116) rfl  k) ?_
  refine own_st (fr' := (mkF m 120 #[.val (.ref a), oI 0, oI 304, .val (.int (t' &&& (255 : Int32))), oI 130, oI 2, .val (.long (0 : Int64)), .second, oI 2, oI 0] [(.int 2), (.int 0)])) (fun t k => XS.iload X0.here hx rfl (hb hby d4_118) rfl  k) ?_
  refine own_st (fr' := (mkF m 123 #[.val (.ref a), oI 0, oI 304, .val (.int (t' &&& (255 : Int32))), oI 130, oI 2, .val (.long (0 : Int64)), .second, oI 2, oI 0] [])) (fun t k => XS.icmpNo X0.here hx rfl (hb hby d4_120) rfl (own_tlt (x := (0 : Int32)) (y := (2 : Int32)) (show 0 < 2 from by decide)).2.1 k) ?_
  refine own_st (fr' := (mkF m 125 #[.val (.ref a), oI 0, oI 304, .val (.int (t' &&& (255 : Int32))), oI 130, oI 2, .val (.long (0 : Int64)), .second, oI 2, oI 0] [(.long (0 : Int64))])) (fun t k => XS.lload X0.here hx rfl (hb hby d4_123) rfl  k) ?_
  refine own_st (fr' := (mkF m 127 #[.val (.ref a), oI 0, oI 304, .val (.int (t' &&& (255 : Int32))), oI 130, oI 2, .val (.long (0 : Int64)), .second, oI 2, oI 0] [(.int 8), (.long (0 : Int64))])) (fun t k => XS.bipush X0.here hx rfl (hb hby d4_125) k) ?_
  refine own_st (fr' := (mkF m 128 #[.val (.ref a), oI 0, oI 304, .val (.int (t' &&& (255 : Int32))), oI 130, oI 2, .val (.long (0 : Int64)), .second, oI 2, oI 0] [(.long (0 : Int64))])) (fun t k => XS.lshl X0.here hx rfl (hb hby d4_127) rfl k) ?_
  refine own_st (fr' := (mkF m 129 #[.val (.ref a), oI 0, oI 304, .val (.int (t' &&& (255 : Int32))), oI 130, oI 2, .val (.long (0 : Int64)), .second, oI 2, oI 0] [(.ref a), (.long (0 : Int64))])) (fun t k => XS.aloadN X0.here hx rfl (hb hby d4_128) rfl rfl k) ?_
  refine own_st (fr' := (mkF m 131 #[.val (.ref a), oI 0, oI 304, .val (.int (t' &&& (255 : Int32))), oI 130, oI 2, .val (.long (0 : Int64)), .second, oI 2, oI 0] [(.int 2), (.ref a), (.long (0 : Int64))])) (fun t k => XS.iload X0.here hx rfl (hb hby d4_129) rfl  k) ?_
  refine own_st (fr' := (mkF m 133 #[.val (.ref a), oI 0, oI 304, .val (.int (t' &&& (255 : Int32))), oI 130, oI 2, .val (.long (0 : Int64)), .second, oI 2, oI 0] [(.int 0), (.int 2), (.ref a), (.long (0 : Int64))])) (fun t k => XS.iload X0.here hx rfl (hb hby d4_131) rfl  k) ?_
  refine own_st (fr' := (mkF m 134 #[.val (.ref a), oI 0, oI 304, .val (.int (t' &&& (255 : Int32))), oI 130, oI 2, .val (.long (0 : Int64)), .second, oI 2, oI 0] [(.int 2), (.ref a), (.long (0 : Int64))])) (fun t k => XS.iadd X0.here hx rfl (hb hby d4_133) rfl k) ?_
  refine own_baload (j := (2 : Int32)) X0 hx hZ e0 VA (by decide) (by decide) (v := (.int 1)) (h_2) (hb hby d4_134) ?_
  refine own_st (fr' := (mkF m 138 #[.val (.ref a), oI 0, oI 304, .val (.int (t' &&& (255 : Int32))), oI 130, oI 2, .val (.long (0 : Int64)), .second, oI 2, oI 0] [(.int 255), (.int 1), (.long (0 : Int64))])) (fun t k => XS.sipush X0.here hx rfl (hb hby d4_135) k) ?_
  refine own_st (fr' := (mkF m 139 #[.val (.ref a), oI 0, oI 304, .val (.int (t' &&& (255 : Int32))), oI 130, oI 2, .val (.long (0 : Int64)), .second, oI 2, oI 0] [(.int 1), (.long (0 : Int64))])) (fun t k => XS.iand X0.here hx rfl (hb hby d4_138) rfl k) ?_
  refine own_st (fr' := (mkF m 140 #[.val (.ref a), oI 0, oI 304, .val (.int (t' &&& (255 : Int32))), oI 130, oI 2, .val (.long (0 : Int64)), .second, oI 2, oI 0] [(.long (1 : Int64)), (.long (0 : Int64))])) (fun t k => XS.i2l X0.here hx rfl (hb hby d4_139) rfl k) ?_
  refine own_st (fr' := (mkF m 141 #[.val (.ref a), oI 0, oI 304, .val (.int (t' &&& (255 : Int32))), oI 130, oI 2, .val (.long (0 : Int64)), .second, oI 2, oI 0] [(.long (1 : Int64))])) (fun t k => XS.lor X0.here hx rfl (hb hby d4_140) rfl k) ?_
  refine own_st (fr' := (mkF m 143 #[.val (.ref a), oI 0, oI 304, .val (.int (t' &&& (255 : Int32))), oI 130, oI 2, .val (.long (1 : Int64)), .second, oI 2, oI 0] [])) (fun t k => XS.lstore X0.here hx rfl (hb hby d4_141) rfl  (l' := #[.val (.ref a), oI 0, oI 304, .val (.int (t' &&& (255 : Int32))), oI 130, oI 2, .val (.long (1 : Int64)), .second, oI 2, oI 0]) rfl k) ?_
  refine own_st (fr' := (mkF m 146 #[.val (.ref a), oI 0, oI 304, .val (.int (t' &&& (255 : Int32))), oI 130, oI 2, .val (.long (1 : Int64)), .second, oI 2, oI 1] [])) (fun t k => XS.iinc X0.here hx rfl (hb hby d4_143) rfl (l' := #[.val (.ref a), oI 0, oI 304, .val (.int (t' &&& (255 : Int32))), oI 130, oI 2, .val (.long (1 : Int64)), .second, oI 2, oI 1]) rfl k) ?_
  refine own_st (fr' := (mkF m 116 #[.val (.ref a), oI 0, oI 304, .val (.int (t' &&& (255 : Int32))), oI 130, oI 2, .val (.long (1 : Int64)), .second, oI 2, oI 1] [])) (fun t k => XS.goto X0.here hx rfl (pc0 := 146) (pc' := 116) rfl (hb hby d4_146) (by decide) (by decide) k) ?_
  refine own_st (fr' := (mkF m 118 #[.val (.ref a), oI 0, oI 304, .val (.int (t' &&& (255 : Int32))), oI 130, oI 2, .val (.long (1 : Int64)), .second, oI 2, oI 1] [(.int 1)])) (fun t k => XS.iload X0.here hx rfl (hb hby d4_116) rfl  k) ?_
  refine own_st (fr' := (mkF m 120 #[.val (.ref a), oI 0, oI 304, .val (.int (t' &&& (255 : Int32))), oI 130, oI 2, .val (.long (1 : Int64)), .second, oI 2, oI 1] [(.int 2), (.int 1)])) (fun t k => XS.iload X0.here hx rfl (hb hby d4_118) rfl  k) ?_
  refine own_st (fr' := (mkF m 123 #[.val (.ref a), oI 0, oI 304, .val (.int (t' &&& (255 : Int32))), oI 130, oI 2, .val (.long (1 : Int64)), .second, oI 2, oI 1] [])) (fun t k => XS.icmpNo X0.here hx rfl (hb hby d4_120) rfl (own_tlt (x := (1 : Int32)) (y := (2 : Int32)) (show 1 < 2 from by decide)).2.1 k) ?_
  refine own_st (fr' := (mkF m 125 #[.val (.ref a), oI 0, oI 304, .val (.int (t' &&& (255 : Int32))), oI 130, oI 2, .val (.long (1 : Int64)), .second, oI 2, oI 1] [(.long (1 : Int64))])) (fun t k => XS.lload X0.here hx rfl (hb hby d4_123) rfl  k) ?_
  refine own_st (fr' := (mkF m 127 #[.val (.ref a), oI 0, oI 304, .val (.int (t' &&& (255 : Int32))), oI 130, oI 2, .val (.long (1 : Int64)), .second, oI 2, oI 1] [(.int 8), (.long (1 : Int64))])) (fun t k => XS.bipush X0.here hx rfl (hb hby d4_125) k) ?_
  refine own_st (fr' := (mkF m 128 #[.val (.ref a), oI 0, oI 304, .val (.int (t' &&& (255 : Int32))), oI 130, oI 2, .val (.long (1 : Int64)), .second, oI 2, oI 1] [(.long (256 : Int64))])) (fun t k => XS.lshl X0.here hx rfl (hb hby d4_127) rfl k) ?_
  refine own_st (fr' := (mkF m 129 #[.val (.ref a), oI 0, oI 304, .val (.int (t' &&& (255 : Int32))), oI 130, oI 2, .val (.long (1 : Int64)), .second, oI 2, oI 1] [(.ref a), (.long (256 : Int64))])) (fun t k => XS.aloadN X0.here hx rfl (hb hby d4_128) rfl rfl k) ?_
  refine own_st (fr' := (mkF m 131 #[.val (.ref a), oI 0, oI 304, .val (.int (t' &&& (255 : Int32))), oI 130, oI 2, .val (.long (1 : Int64)), .second, oI 2, oI 1] [(.int 2), (.ref a), (.long (256 : Int64))])) (fun t k => XS.iload X0.here hx rfl (hb hby d4_129) rfl  k) ?_
  refine own_st (fr' := (mkF m 133 #[.val (.ref a), oI 0, oI 304, .val (.int (t' &&& (255 : Int32))), oI 130, oI 2, .val (.long (1 : Int64)), .second, oI 2, oI 1] [(.int 1), (.int 2), (.ref a), (.long (256 : Int64))])) (fun t k => XS.iload X0.here hx rfl (hb hby d4_131) rfl  k) ?_
  refine own_st (fr' := (mkF m 134 #[.val (.ref a), oI 0, oI 304, .val (.int (t' &&& (255 : Int32))), oI 130, oI 2, .val (.long (1 : Int64)), .second, oI 2, oI 1] [(.int 3), (.ref a), (.long (256 : Int64))])) (fun t k => XS.iadd X0.here hx rfl (hb hby d4_133) rfl k) ?_
  refine own_baload (j := (3 : Int32)) X0 hx hZ e0 VA (by decide) (by decide) (v := (.int 44)) (h_3) (hb hby d4_134) ?_
  refine own_st (fr' := (mkF m 138 #[.val (.ref a), oI 0, oI 304, .val (.int (t' &&& (255 : Int32))), oI 130, oI 2, .val (.long (1 : Int64)), .second, oI 2, oI 1] [(.int 255), (.int 44), (.long (256 : Int64))])) (fun t k => XS.sipush X0.here hx rfl (hb hby d4_135) k) ?_
  refine own_st (fr' := (mkF m 139 #[.val (.ref a), oI 0, oI 304, .val (.int (t' &&& (255 : Int32))), oI 130, oI 2, .val (.long (1 : Int64)), .second, oI 2, oI 1] [(.int 44), (.long (256 : Int64))])) (fun t k => XS.iand X0.here hx rfl (hb hby d4_138) rfl k) ?_
  refine own_st (fr' := (mkF m 140 #[.val (.ref a), oI 0, oI 304, .val (.int (t' &&& (255 : Int32))), oI 130, oI 2, .val (.long (1 : Int64)), .second, oI 2, oI 1] [(.long (44 : Int64)), (.long (256 : Int64))])) (fun t k => XS.i2l X0.here hx rfl (hb hby d4_139) rfl k) ?_
  refine own_st (fr' := (mkF m 141 #[.val (.ref a), oI 0, oI 304, .val (.int (t' &&& (255 : Int32))), oI 130, oI 2, .val (.long (1 : Int64)), .second, oI 2, oI 1] [(.long (300 : Int64))])) (fun t k => XS.lor X0.here hx rfl (hb hby d4_140) rfl k) ?_
  refine own_st (fr' := (mkF m 143 #[.val (.ref a), oI 0, oI 304, .val (.int (t' &&& (255 : Int32))), oI 130, oI 2, .val (.long (300 : Int64)), .second, oI 2, oI 1] [])) (fun t k => XS.lstore X0.here hx rfl (hb hby d4_141) rfl  (l' := #[.val (.ref a), oI 0, oI 304, .val (.int (t' &&& (255 : Int32))), oI 130, oI 2, .val (.long (300 : Int64)), .second, oI 2, oI 1]) rfl k) ?_
  refine own_st (fr' := (mkF m 146 #[.val (.ref a), oI 0, oI 304, .val (.int (t' &&& (255 : Int32))), oI 130, oI 2, .val (.long (300 : Int64)), .second, oI 2, oI 2] [])) (fun t k => XS.iinc X0.here hx rfl (hb hby d4_143) rfl (l' := #[.val (.ref a), oI 0, oI 304, .val (.int (t' &&& (255 : Int32))), oI 130, oI 2, .val (.long (300 : Int64)), .second, oI 2, oI 2]) rfl k) ?_
  refine own_st (fr' := (mkF m 116 #[.val (.ref a), oI 0, oI 304, .val (.int (t' &&& (255 : Int32))), oI 130, oI 2, .val (.long (300 : Int64)), .second, oI 2, oI 2] [])) (fun t k => XS.goto X0.here hx rfl (pc0 := 146) (pc' := 116) rfl (hb hby d4_146) (by decide) (by decide) k) ?_
  refine own_st (fr' := (mkF m 118 #[.val (.ref a), oI 0, oI 304, .val (.int (t' &&& (255 : Int32))), oI 130, oI 2, .val (.long (300 : Int64)), .second, oI 2, oI 2] [(.int 2)])) (fun t k => XS.iload X0.here hx rfl (hb hby d4_116) rfl  k) ?_
  refine own_st (fr' := (mkF m 120 #[.val (.ref a), oI 0, oI 304, .val (.int (t' &&& (255 : Int32))), oI 130, oI 2, .val (.long (300 : Int64)), .second, oI 2, oI 2] [(.int 2), (.int 2)])) (fun t k => XS.iload X0.here hx rfl (hb hby d4_118) rfl  k) ?_
  refine own_st (fr' := (mkF m 149 #[.val (.ref a), oI 0, oI 304, .val (.int (t' &&& (255 : Int32))), oI 130, oI 2, .val (.long (300 : Int64)), .second, oI 2, oI 2] [])) (fun t k => XS.icmpYes X0.here hx rfl (pc0 := 120) (pc' := 149) rfl (hb hby d4_120) rfl (own_flt (x := (2 : Int32)) (y := (2 : Int32)) (show ¬ 2 < 2 from by decide)).2.1 (by decide) (by decide) k) ?_
  refine own_st (fr' := (mkF m 151 #[.val (.ref a), oI 0, oI 304, .val (.int (t' &&& (255 : Int32))), oI 130, oI 2, .val (.long (300 : Int64)), .second, oI 2, oI 2] [(.int 2)])) (fun t k => XS.iload X0.here hx rfl (hb hby d4_149) rfl  k) ?_
  refine own_st (fr' := (mkF m 153 #[.val (.ref a), oI 0, oI 304, .val (.int (t' &&& (255 : Int32))), oI 130, oI 2, .val (.long (300 : Int64)), .second, oI 2, oI 2] [(.int 2), (.int 2)])) (fun t k => XS.iload X0.here hx rfl (hb hby d4_151) rfl  k) ?_
  refine own_st (fr' := (mkF m 154 #[.val (.ref a), oI 0, oI 304, .val (.int (t' &&& (255 : Int32))), oI 130, oI 2, .val (.long (300 : Int64)), .second, oI 2, oI 2] [(.int 4)])) (fun t k => XS.iadd X0.here hx rfl (hb hby d4_153) rfl k) ?_
  refine own_st (fr' := (mkF m 156 #[.val (.ref a), oI 0, oI 304, .val (.int (t' &&& (255 : Int32))), oI 130, oI 4, .val (.long (300 : Int64)), .second, oI 2, oI 2] [])) (fun t k => XS.istore X0.here hx rfl (hb hby d4_154) rfl  (l' := #[.val (.ref a), oI 0, oI 304, .val (.int (t' &&& (255 : Int32))), oI 130, oI 4, .val (.long (300 : Int64)), .second, oI 2, oI 2]) rfl k) ?_
  refine own_st (fr' := (mkF m 158 #[.val (.ref a), oI 0, oI 304, .val (.int (t' &&& (255 : Int32))), oI 130, oI 4, .val (.long (300 : Int64)), .second, oI 2, oI 2] [(.long (300 : Int64))])) (fun t k => XS.lload X0.here hx rfl (hb hby d4_156) rfl  k) ?_
  refine own_st (fr' := (mkF m 159 #[.val (.ref a), oI 0, oI 304, .val (.int (t' &&& (255 : Int32))), oI 130, oI 4, .val (.long (300 : Int64)), .second, oI 2, oI 2] [(.int 304), (.long (300 : Int64))])) (fun t k => XS.iloadN X0.here hx rfl (hb hby d4_158) rfl  k) ?_
  refine own_st (fr' := (mkF m 161 #[.val (.ref a), oI 0, oI 304, .val (.int (t' &&& (255 : Int32))), oI 130, oI 4, .val (.long (300 : Int64)), .second, oI 2, oI 2] [(.int 4), (.int 304), (.long (300 : Int64))])) (fun t k => XS.iload X0.here hx rfl (hb hby d4_159) rfl  k) ?_
  refine own_st (fr' := (mkF m 162 #[.val (.ref a), oI 0, oI 304, .val (.int (t' &&& (255 : Int32))), oI 130, oI 4, .val (.long (300 : Int64)), .second, oI 2, oI 2] [(.int 300), (.long (300 : Int64))])) (fun t k => XS.isub X0.here hx rfl (hb hby d4_161) rfl k) ?_
  refine own_st (fr' := (mkF m 163 #[.val (.ref a), oI 0, oI 304, .val (.int (t' &&& (255 : Int32))), oI 130, oI 4, .val (.long (300 : Int64)), .second, oI 2, oI 2] [(.long (300 : Int64)), (.long (300 : Int64))])) (fun t k => XS.i2l X0.here hx rfl (hb hby d4_162) rfl k) ?_
  refine own_st (fr' := (mkF m 164 #[.val (.ref a), oI 0, oI 304, .val (.int (t' &&& (255 : Int32))), oI 130, oI 4, .val (.long (300 : Int64)), .second, oI 2, oI 2] [(.int (lcmpW (300 : Int64) (300 : Int64)))])) (fun t k => XS.lcmp X0.here hx rfl (hb hby d4_163) rfl k) ?_
  refine own_st (fr' := (mkF m 177 #[.val (.ref a), oI 0, oI 304, .val (.int (t' &&& (255 : Int32))), oI 130, oI 4, .val (.long (300 : Int64)), .second, oI 2, oI 2] [])) (fun t k => XS.ifYes X0.here hx rfl (pc0 := 164) (pc' := 177) rfl (hb hby d4_164) rfl (own_fgtL (x := (300 : Int64)) (y := (300 : Int64)) (show ¬ 300 < 300 from by decide)).2 (by decide) (by decide) k) ?_
  obtain ⟨T108, h108, X108, e108, E108, A108, D108, -, st108⟩ := newO X0 hx hZ hown (hw _ (List.mem_of_getElem? (i := 15) rfl)) (hw _ (List.mem_of_getElem? (i := 16) rfl)) (hw _ (List.mem_of_getElem? (i := 10) rfl)) e0 (g := (mkF m 177 #[.val (.ref a), oI 0, oI 304, .val (.int (t' &&& (255 : Int32))), oI 130, oI 4, .val (.long (300 : Int64)), .second, oI 2, oI 2] [])) rfl (hb hby d4_177) (by decide) (by decide)
  obtain ⟨b108, g108⟩ : ∃ z, z = h0.size := ⟨_, rfl⟩
  rw [← g108] at A108 D108 st108
  have lt108_a : a < b108 := Nat.lt_of_lt_of_eq VA.lt g108.symm
  have ne108_a : a ≠ b108 := Nat.ne_of_lt lt108_a
  have ge_b108 : n0 ≤ b108 := Nat.le_trans Z0 (Nat.le_of_eq g108.symm)
  have sz_b108 : h0.size ≤ b108 := Nat.le_trans (Nat.le_refl _) (Nat.le_of_eq g108.symm)
  have F108_bytes : Fld Z h108 b108 "com/example/linkvouch/linkvouch/apk/Der" "bytes" "[B" .null := D108 (Or.inr (hw _ (List.mem_of_getElem? (i := 24) rfl))) (ty := (.array .byte)) (by decide)
  have F108_tag : Fld Z h108 b108 "com/example/linkvouch/linkvouch/apk/Der" "tag" "I" (.int 0) := D108 (Or.inr (hw _ (List.mem_of_getElem? (i := 26) rfl))) (ty := .int) (by decide)
  have F108_start : Fld Z h108 b108 "com/example/linkvouch/linkvouch/apk/Der" "start" "I" (.int 0) := D108 (Or.inr (hw _ (List.mem_of_getElem? (i := 28) rfl))) (ty := .int) (by decide)
  have F108_contentStart : Fld Z h108 b108 "com/example/linkvouch/linkvouch/apk/Der" "contentStart" "I" (.int 0) := D108 (Or.inr (hw _ (List.mem_of_getElem? (i := 30) rfl))) (ty := .int) (by decide)
  have F108_end : Fld Z h108 b108 "com/example/linkvouch/linkvouch/apk/Der" "end" "I" (.int 0) := D108 (Or.inr (hw _ (List.mem_of_getElem? (i := 32) rfl))) (ty := .int) (by decide)
  refine own_st (fr' := (mkF m 180 #[.val (.ref a), oI 0, oI 304, .val (.int (t' &&& (255 : Int32))), oI 130, oI 4, .val (.long (300 : Int64)), .second, oI 2, oI 2] [(.ref b108)])) st108 ?_
  refine own_st (fr' := (mkF m 181 #[.val (.ref a), oI 0, oI 304, .val (.int (t' &&& (255 : Int32))), oI 130, oI 4, .val (.long (300 : Int64)), .second, oI 2, oI 2] [(.ref b108), (.ref b108)])) (fun t k => XS.dup X108.here hx rfl (hb hby d4_180) rfl rfl k) ?_
  refine own_st (fr' := (mkF m 182 #[.val (.ref a), oI 0, oI 304, .val (.int (t' &&& (255 : Int32))), oI 130, oI 4, .val (.long (300 : Int64)), .second, oI 2, oI 2] [(.ref a), (.ref b108), (.ref b108)])) (fun t k => XS.aloadN X108.here hx rfl (hb hby d4_181) rfl rfl k) ?_
  refine own_st (fr' := (mkF m 183 #[.val (.ref a), oI 0, oI 304, .val (.int (t' &&& (255 : Int32))), oI 130, oI 4, .val (.long (300 : Int64)), .second, oI 2, oI 2] [(.int (t' &&& (255 : Int32))), (.ref a), (.ref b108), (.ref b108)])) (fun t k => XS.iloadN X108.here hx rfl (hb hby d4_182) rfl  k) ?_
  refine own_st (fr' := (mkF m 184 #[.val (.ref a), oI 0, oI 304, .val (.int (t' &&& (255 : Int32))), oI 130, oI 4, .val (.long (300 : Int64)), .second, oI 2, oI 2] [(.int 0), (.int (t' &&& (255 : Int32))), (.ref a), (.ref b108), (.ref b108)])) (fun t k => XS.iloadN X108.here hx rfl (hb hby d4_183) rfl  k) ?_
  refine own_st (fr' := (mkF m 186 #[.val (.ref a), oI 0, oI 304, .val (.int (t' &&& (255 : Int32))), oI 130, oI 4, .val (.long (300 : Int64)), .second, oI 2, oI 2] [(.int 4), (.int 0), (.int (t' &&& (255 : Int32))), (.ref a), (.ref b108), (.ref b108)])) (fun t k => XS.iload X108.here hx rfl (hb hby d4_184) rfl  k) ?_
  refine own_st (fr' := (mkF m 188 #[.val (.ref a), oI 0, oI 304, .val (.int (t' &&& (255 : Int32))), oI 130, oI 4, .val (.long (300 : Int64)), .second, oI 2, oI 2] [(.int 4), (.int 4), (.int 0), (.int (t' &&& (255 : Int32))), (.ref a), (.ref b108), (.ref b108)])) (fun t k => XS.iload X108.here hx rfl (hb hby d4_186) rfl  k) ?_
  refine own_st (fr' := (mkF m 190 #[.val (.ref a), oI 0, oI 304, .val (.int (t' &&& (255 : Int32))), oI 130, oI 4, .val (.long (300 : Int64)), .second, oI 2, oI 2] [(.long (300 : Int64)), (.int 4), (.int 4), (.int 0), (.int (t' &&& (255 : Int32))), (.ref a), (.ref b108), (.ref b108)])) (fun t k => XS.lload X108.here hx rfl (hb hby d4_188) rfl  k) ?_
  refine own_st (fr' := (mkF m 191 #[.val (.ref a), oI 0, oI 304, .val (.int (t' &&& (255 : Int32))), oI 130, oI 4, .val (.long (300 : Int64)), .second, oI 2, oI 2] [(.int 300), (.int 4), (.int 4), (.int 0), (.int (t' &&& (255 : Int32))), (.ref a), (.ref b108), (.ref b108)])) (fun t k => XS.l2i X108.here hx rfl (hb hby d4_190) rfl k) ?_
  refine own_st (fr' := (mkF m 192 #[.val (.ref a), oI 0, oI 304, .val (.int (t' &&& (255 : Int32))), oI 130, oI 4, .val (.long (300 : Int64)), .second, oI 2, oI 2] [(.int 304), (.int 4), (.int 0), (.int (t' &&& (255 : Int32))), (.ref a), (.ref b108), (.ref b108)])) (fun t k => XS.iadd X108.here hx rfl (hb hby d4_191) rfl k) ?_
  refine own_callN X108 hx hZ (y := (⟨"com/example/linkvouch/linkvouch/apk/Der", "<init>", "([BIIII)V"⟩ : MethodName)) hown rfl (hw _ (List.mem_of_getElem? (i := 17) rfl)) (hw _ (List.mem_of_getElem? (i := 18) rfl)) (hw _ (List.mem_of_getElem? (i := 10) rfl)) (hw _ (List.mem_of_getElem? (i := 19) rfl)) (by decide) (a := b108) (argsL := [(.ref a), (.int (t' &&& (255 : Int32))), (.int 0), (.int 4), (.int 304)]) (rest := [(.ref b108)]) (W := 1) (rm_dinit l Z a0 hw [] b108 a (t' &&& (255 : Int32)) (0 : Int32) (4 : Int32) (304 : Int32) h108 n0 (Nat.le_trans Z0 E108.1) F108_bytes F108_tag F108_start F108_contentStart F108_end A108 ge_b108) e108 (by rw [hml]; rfl) (lenOf pd_3 rfl) rfl (Nat.le_of_eq rfl) (hb hby d4_192) (by decide) (by decide) (by decide) (by decide) ?_
  intro v109 T109 L109 X109 hQ109
  obtain ⟨rfl, Nq109, K109, Fc109_0, Fc109_1, Fc109_2, Fc109_3, Fc109_4⟩ := hQ109
  have N109 := Fr.app N0 Nq109
  exact own_retA X109 hx hlk hret rfl rfl (hb hby d4_195) (by decide) (by decide) (⟨⟨b108, rfl, sz_b108, (A108.keep K109), Fc109_0, Fc109_1, Fc109_2, Fc109_3, Fc109_4⟩, N109, (Keep.trans (Keep.ext (Keep.refl h0 []) E108) K109 (allS (Or.inr sz_b108) all0))⟩)
theorem ef_parse7 (m : MethodId) (a : Addr) : entryFrame m #[(.ref a)] 2 = mkF m 0 #[.val (.ref a), .unset] [] := by first | (simp [entryFrame, mkF, argsToLocals, Value.category, maxLocals]; done) | rfl
def Q_parse7 (Z : State) (a : Addr) (t' : Int32) (f : Nat → Value) (h0 : Heap) (n0 : Nat) : Option Value → Heap → List Loc → Prop := fun v h L => (∃ d : Addr, v = some (.ref d) ∧ h0.size ≤ d ∧ Exa Z h d "com/example/linkvouch/linkvouch/apk/Der" ∧ Fld Z h d "com/example/linkvouch/linkvouch/apk/Der" "bytes" "[B" (.ref a) ∧ Fld Z h d "com/example/linkvouch/linkvouch/apk/Der" "tag" "I" (.int (t' &&& 255)) ∧ Fld Z h d "com/example/linkvouch/linkvouch/apk/Der" "start" "I" (.int 0) ∧ Fld Z h d "com/example/linkvouch/linkvouch/apk/Der" "contentStart" "I" (.int 4) ∧ Fld Z h d "com/example/linkvouch/linkvouch/apk/Der" "end" "I" (.int 304)) ∧ Fr n0 L ∧ Keep h0 h []
set_option maxRecDepth 65536 in
set_option maxHeartbeats 40000000 in
theorem rm_parse7 (l : Launch) (Z : State) (a0 : Array Value) (hw : ∀ d ∈ tables_1, d.before a0 Z = true) (ws : List Jvm.Cond) (a : Addr) (t' : Int32) (f : Nat → Value) (h0 : Heap) (n0 : Nat) (Z0 : n0 ≤ h0.size) (VA : own_A Z h0 a .byte 304 f) (h_0 : f 0 = .int t') (h_1 : f 1 = .int (-126)) (h_2 : f 2 = .int (1)) (h_3 : f 3 = .int (44)) (htag : ¬ ((t' &&& 255) &&& 31).toInt = 31) :
    MetFree l (⟨"com/example/linkvouch/linkvouch/apk/Der", "parse", "([B)Lcom/example/linkvouch/linkvouch/apk/Der;"⟩ : MethodName) (head1 (Jvm.Cond.code (⟨"com/example/linkvouch/linkvouch/apk/Der", "parse", "([B)Lcom/example/linkvouch/linkvouch/apk/Der;"⟩ : MethodName) prog_30_method_2_code 2 (some (.object "com/example/linkvouch/linkvouch/apk/Der")) :: ws) ({ frames := 3, cells := 1, slots := 5, locals := 70 } : Room)) (fun aX U => aX = #[(.ref a)] ∧ Z.Warmed39 U.vm ∧ U.heap = h0) (fun _ _ _ _ _ => True) (fun _ U o U' => ∃ v L, o = .returned v ∧ (Q_parse7 Z a t' f h0 n0) v U'.heap L ∧ FrameEnd U o U' L ({ frames := 3, cells := 1, slots := 5, locals := 70 } : Room).cells ({ frames := 3, cells := 1, slots := 5, locals := 70 } : Room).slots) := by
  refine own_met (Q := (Q_parse7 Z a t' f h0 n0)) (plainFor_of_name (x := (⟨"com/example/linkvouch/linkvouch/apk/Der", "parse", "([B)Lcom/example/linkvouch/linkvouch/apk/Der;"⟩ : MethodName)) pn_1) (fun m => ef_parse7 m a) ?_
  intro p e s m below meth cD s₁ hx hby hml hret hlk hZ hown hnm X0 e0 hs0
  have hown : s.vm.findClass "com/example/linkvouch/linkvouch/apk/Der" = some m.cls := hown
  have N0 := Fr.nil n0
  refine own_st (fr' := (mkF m 1 #[.val (.ref a), .unset] [(.ref a)])) (fun t k => XS.aloadN X0.here hx rfl (hb hby d3_0) rfl rfl k) ?_
  refine own_st (fr' := (mkF m 2 #[.val (.ref a), .unset] [(.int 0), (.ref a)])) (fun t k => XS.iconst X0.here hx rfl (hb hby d3_1) k) ?_
  refine own_st (fr' := (mkF m 3 #[.val (.ref a), .unset] [(.ref a), (.int 0), (.ref a)])) (fun t k => XS.aloadN X0.here hx rfl (hb hby d3_2) rfl rfl k) ?_
  refine own_alen X0 hx hZ e0 VA (hb hby d3_3) ?_
  refine own_callS X0 hx hZ (y := (⟨"com/example/linkvouch/linkvouch/apk/Der", "read", "([BII)Lcom/example/linkvouch/linkvouch/apk/Der;"⟩ : MethodName)) hown (hw _ (List.mem_of_getElem? (i := 12) rfl)) (hw _ (List.mem_of_getElem? (i := 13) rfl)) (hw _ (List.mem_of_getElem? (i := 10) rfl)) (hw _ (List.mem_of_getElem? (i := 14) rfl)) (by decide) (argsL := [(.ref a), (.int 0), (.int 304)]) (rest := []) (W := 0) (rm_read7 l Z a0 hw [] a t' f h0 n0 Z0 VA h_0 h_1 h_2 h_3 htag) e0 (by rw [hml]; rfl) (lenOf pd_4 rfl) rfl (Nat.le_of_eq rfl) (hb hby d3_4) (by decide) (by decide) (by decide) (by decide) ?_
  intro v110 T110 L110 X110 hQ110
  obtain ⟨⟨d, rfl, hd0, Ed, Fd0, Fd1, Fd2, Fd3, Fd4⟩, Nq110, K110⟩ := hQ110
  have N110 := Fr.app N0 Nq110
  refine own_st (fr' := (mkF m 8 #[.val (.ref a), .val (.ref d)] [])) (fun t k => XS.astoreN X110.here hx rfl (hb hby d3_7) rfl rfl (l' := #[.val (.ref a), .val (.ref d)]) rfl k) ?_
  refine own_st (fr' := (mkF m 9 #[.val (.ref a), .val (.ref d)] [(.ref d)])) (fun t k => XS.aloadN X110.here hx rfl (hb hby d3_8) rfl rfl k) ?_
  obtain ⟨T111, X111, e111, st111⟩ := getF X110 hx hZ hown (host := "") (Or.inl (hw _ (List.mem_of_getElem? (i := 31) rfl))) Via.refl rfl Fd4 (g := (mkF m 9 #[.val (.ref a), .val (.ref d)] [(.ref d)])) rfl rfl (hb hby d3_9)
  refine own_st (fr' := (mkF m 12 #[.val (.ref a), .val (.ref d)] [(.int 304)])) st111 ?_
  refine own_st (fr' := (mkF m 13 #[.val (.ref a), .val (.ref d)] [(.ref a), (.int 304)])) (fun t k => XS.aloadN X111.here hx rfl (hb hby d3_12) rfl rfl k) ?_
  refine own_alen X111 hx hZ e111 (VA.keep K110 nin0) (hb hby d3_13) ?_
  refine own_st (fr' := (mkF m 27 #[.val (.ref a), .val (.ref d)] [])) (fun t k => XS.icmpYes X111.here hx rfl (pc0 := 14) (pc' := 27) rfl (hb hby d3_14) rfl (own_teq (x := (304 : Int32)) (y := (304 : Int32)) (show 304 = 304 from by decide)).1 (by decide) (by decide) k) ?_
  refine own_st (fr' := (mkF m 28 #[.val (.ref a), .val (.ref d)] [(.ref d)])) (fun t k => XS.aloadN X111.here hx rfl (hb hby d3_27) rfl rfl k) ?_
  exact own_retA X111 hx hlk hret rfl rfl (hb hby d3_28) (by decide) (by decide) (by rw [e111]; exact ⟨⟨d, rfl, hd0, Ed, Fd0, Fd1, Fd2, Fd3, Fd4⟩, N110, (Keep.trans (Keep.refl h0 []) K110 all0)⟩)
theorem ef_cont7 (m : MethodId) (d : Addr) : entryFrame m #[(.ref d)] 1 = mkF m 0 #[.val (.ref d)] [] := by first | (simp [entryFrame, mkF, argsToLocals, Value.category, maxLocals]; done) | rfl
def Q_cont7 (Z : State) (d : Addr) (a : Addr) (f : Nat → Value) (h0 : Heap) (n0 : Nat) : Option Value → Heap → List Loc → Prop := fun v h L => (∃ (r : Addr) (g : Nat → Value), v = some (.ref r) ∧ h0.size ≤ r ∧ own_A Z h r .byte 300 g ∧ ∀ i : Nat, i < 300 → g i = f (4 + i)) ∧ Fr n0 L ∧ Keep h0 h []
set_option maxRecDepth 65536 in
set_option maxHeartbeats 40000000 in
theorem rm_cont7 (l : Launch) (Z : State) (a0 : Array Value) (hw : ∀ d ∈ tables_1, d.before a0 Z = true) (ws : List Jvm.Cond) (d : Addr) (a : Addr) (f : Nat → Value) (h0 : Heap) (n0 : Nat) (Z0 : n0 ≤ h0.size) (F_bytes : Fld Z h0 d "com/example/linkvouch/linkvouch/apk/Der" "bytes" "[B" (.ref a)) (VA : own_A Z h0 a .byte 304 f) (EA : Exa Z h0 a "[B") (F_end : Fld Z h0 d "com/example/linkvouch/linkvouch/apk/Der" "end" "I" (.int 304)) (F_contentStart : Fld Z h0 d "com/example/linkvouch/linkvouch/apk/Der" "contentStart" "I" (.int 4)) :
    MetFree l (⟨"com/example/linkvouch/linkvouch/apk/Der", "content", "()[B"⟩ : MethodName) (head1 (Jvm.Cond.code (⟨"com/example/linkvouch/linkvouch/apk/Der", "content", "()[B"⟩ : MethodName) prog_30_method_9_code 1 (some (.array .byte)) :: ws) ({ frames := 3, cells := 1, slots := 304, locals := 110 } : Room)) (fun aX U => aX = #[(.ref d)] ∧ Z.Warmed39 U.vm ∧ U.heap = h0) (fun _ _ _ _ _ => True) (fun _ U o U' => ∃ v L, o = .returned v ∧ (Q_cont7 Z d a f h0 n0) v U'.heap L ∧ FrameEnd U o U' L ({ frames := 3, cells := 1, slots := 304, locals := 110 } : Room).cells ({ frames := 3, cells := 1, slots := 304, locals := 110 } : Room).slots) := by
  refine own_met (Q := (Q_cont7 Z d a f h0 n0)) (plainFor_of_name (x := (⟨"com/example/linkvouch/linkvouch/apk/Der", "content", "()[B"⟩ : MethodName)) pn_1) (fun m => ef_cont7 m d) ?_
  intro p e s m below meth cD s₁ hx hby hml hret hlk hZ hown hnm X0 e0 hs0
  have hown : s.vm.findClass "com/example/linkvouch/linkvouch/apk/Der" = some m.cls := hown
  have N0 := Fr.nil n0
  refine own_st (fr' := (mkF m 1 #[.val (.ref d)] [(.ref d)])) (fun t k => XS.aloadN X0.here hx rfl (hb hby d7_0) rfl rfl k) ?_
  obtain ⟨T112, X112, e112, st112⟩ := getF X0 hx hZ hown (host := "") (Or.inl (hw _ (List.mem_of_getElem? (i := 23) rfl))) Via.refl e0 F_bytes (g := (mkF m 1 #[.val (.ref d)] [(.ref d)])) rfl rfl (hb hby d7_1)
  refine own_st (fr' := (mkF m 4 #[.val (.ref d)] [(.ref a)])) st112 ?_
  refine own_st (fr' := (mkF m 5 #[.val (.ref d)] [(.ref d), (.ref a)])) (fun t k => XS.aloadN X112.here hx rfl (hb hby d7_4) rfl rfl k) ?_
  obtain ⟨T113, X113, e113, st113⟩ := getF X112 hx hZ hown (host := "") (Or.inl (hw _ (List.mem_of_getElem? (i := 29) rfl))) Via.refl e112 F_contentStart (g := (mkF m 5 #[.val (.ref d)] [(.ref d), (.ref a)])) rfl rfl (hb hby d7_5)
  refine own_st (fr' := (mkF m 8 #[.val (.ref d)] [(.int 4), (.ref a)])) st113 ?_
  refine own_st (fr' := (mkF m 9 #[.val (.ref d)] [(.ref d), (.int 4), (.ref a)])) (fun t k => XS.aloadN X113.here hx rfl (hb hby d7_8) rfl rfl k) ?_
  obtain ⟨T114, X114, e114, st114⟩ := getF X113 hx hZ hown (host := "") (Or.inl (hw _ (List.mem_of_getElem? (i := 31) rfl))) Via.refl e113 F_end (g := (mkF m 9 #[.val (.ref d)] [(.ref d), (.int 4), (.ref a)])) rfl rfl (hb hby d7_9)
  refine own_st (fr' := (mkF m 12 #[.val (.ref d)] [(.int 304), (.int 4), (.ref a)])) st114 ?_
  refine own_callS X114 hx hZ (y := (⟨"java/util/Arrays", "copyOfRange", "([BII)[B"⟩ : MethodName)) hown (hw _ (List.mem_of_getElem? (i := 38) rfl)) (hw _ (List.mem_of_getElem? (i := 39) rfl)) (hw _ (List.mem_of_getElem? (i := 40) rfl)) (hw _ (List.mem_of_getElem? (i := 41) rfl)) (by decide) (argsL := [(.ref a), (.int 4), (.int 304)]) (rest := []) (W := 0) (rm_cr1 l Z a0 hw [] a (4 : Int32) (304 : Int32) (304 : Int32) f h0 n0 Z0 VA EA ⟨by decide, by decide, by decide⟩ (by decide) (by decide)) e114 (by rw [hml]; rfl) (lenOf pd_2 rfl) rfl (Nat.le_of_eq rfl) (hb hby d7_12) (by decide) (by decide) (by decide) (by decide) ?_
  intro v115 T115 L115 X115 hQ115
  obtain ⟨⟨r, g, nl, rfl, hr, hnl, VR, hg⟩, Nq115, K115⟩ := hQ115
  have N115 := Fr.app N0 Nq115
  have enl : nl = (300 : Int32) := Int32.toInt_inj.mp (hnl.trans (by decide))
  subst enl
  exact own_retA X115 hx hlk hret rfl rfl (hb hby d7_15) (by decide) (by decide) (⟨⟨r, g, rfl, hr, VR, fun i hi => hg i (by show (i : Int) < (304 : Int) - 4; omega)⟩, N115, K115⟩)
theorem ef_enc7 (m : MethodId) (d : Addr) : entryFrame m #[(.ref d)] 1 = mkF m 0 #[.val (.ref d)] [] := by first | (simp [entryFrame, mkF, argsToLocals, Value.category, maxLocals]; done) | rfl
def Q_enc7 (Z : State) (d : Addr) (a : Addr) (f : Nat → Value) (h0 : Heap) (n0 : Nat) : Option Value → Heap → List Loc → Prop := fun v h L => (∃ r : Addr, v = some (.ref r) ∧ h0.size ≤ r ∧ own_A Z h r .byte 304 f) ∧ Fr n0 L ∧ Keep h0 h []
set_option maxRecDepth 65536 in
set_option maxHeartbeats 40000000 in
theorem rm_enc7 (l : Launch) (Z : State) (a0 : Array Value) (hw : ∀ d ∈ tables_1, d.before a0 Z = true) (ws : List Jvm.Cond) (d : Addr) (a : Addr) (f : Nat → Value) (h0 : Heap) (n0 : Nat) (Z0 : n0 ≤ h0.size) (F_bytes : Fld Z h0 d "com/example/linkvouch/linkvouch/apk/Der" "bytes" "[B" (.ref a)) (VA : own_A Z h0 a .byte 304 f) (EA : Exa Z h0 a "[B") (F_end : Fld Z h0 d "com/example/linkvouch/linkvouch/apk/Der" "end" "I" (.int 304)) (F_start : Fld Z h0 d "com/example/linkvouch/linkvouch/apk/Der" "start" "I" (.int 0)) :
    MetFree l (⟨"com/example/linkvouch/linkvouch/apk/Der", "encoded", "()[B"⟩ : MethodName) (head1 (Jvm.Cond.code (⟨"com/example/linkvouch/linkvouch/apk/Der", "encoded", "()[B"⟩ : MethodName) prog_30_method_8_code 1 (some (.array .byte)) :: ws) ({ frames := 2, cells := 1, slots := 304, locals := 60 } : Room)) (fun aX U => aX = #[(.ref d)] ∧ Z.Warmed39 U.vm ∧ U.heap = h0) (fun _ _ _ _ _ => True) (fun _ U o U' => ∃ v L, o = .returned v ∧ (Q_enc7 Z d a f h0 n0) v U'.heap L ∧ FrameEnd U o U' L ({ frames := 2, cells := 1, slots := 304, locals := 60 } : Room).cells ({ frames := 2, cells := 1, slots := 304, locals := 60 } : Room).slots) := by
  refine own_met (Q := (Q_enc7 Z d a f h0 n0)) (plainFor_of_name (x := (⟨"com/example/linkvouch/linkvouch/apk/Der", "encoded", "()[B"⟩ : MethodName)) pn_1) (fun m => ef_enc7 m d) ?_
  intro p e s m below meth cD s₁ hx hby hml hret hlk hZ hown hnm X0 e0 hs0
  have hown : s.vm.findClass "com/example/linkvouch/linkvouch/apk/Der" = some m.cls := hown
  have N0 := Fr.nil n0
  refine own_st (fr' := (mkF m 1 #[.val (.ref d)] [(.ref d)])) (fun t k => XS.aloadN X0.here hx rfl (hb hby d12_0) rfl rfl k) ?_
  obtain ⟨T116, X116, e116, st116⟩ := getF X0 hx hZ hown (host := "") (Or.inl (hw _ (List.mem_of_getElem? (i := 23) rfl))) Via.refl e0 F_bytes (g := (mkF m 1 #[.val (.ref d)] [(.ref d)])) rfl rfl (hb hby d12_1)
  refine own_st (fr' := (mkF m 4 #[.val (.ref d)] [(.ref a)])) st116 ?_
  refine own_st (fr' := (mkF m 5 #[.val (.ref d)] [(.ref d), (.ref a)])) (fun t k => XS.aloadN X116.here hx rfl (hb hby d12_4) rfl rfl k) ?_
  obtain ⟨T117, X117, e117, st117⟩ := getF X116 hx hZ hown (host := "") (Or.inl (hw _ (List.mem_of_getElem? (i := 27) rfl))) Via.refl e116 F_start (g := (mkF m 5 #[.val (.ref d)] [(.ref d), (.ref a)])) rfl rfl (hb hby d12_5)
  refine own_st (fr' := (mkF m 8 #[.val (.ref d)] [(.int 0), (.ref a)])) st117 ?_
  refine own_st (fr' := (mkF m 9 #[.val (.ref d)] [(.ref d), (.int 0), (.ref a)])) (fun t k => XS.aloadN X117.here hx rfl (hb hby d12_8) rfl rfl k) ?_
  obtain ⟨T118, X118, e118, st118⟩ := getF X117 hx hZ hown (host := "") (Or.inl (hw _ (List.mem_of_getElem? (i := 31) rfl))) Via.refl e117 F_end (g := (mkF m 9 #[.val (.ref d)] [(.ref d), (.int 0), (.ref a)])) rfl rfl (hb hby d12_9)
  refine own_st (fr' := (mkF m 12 #[.val (.ref d)] [(.int 304), (.int 0), (.ref a)])) st118 ?_
  refine own_callS X118 hx hZ (y := (⟨"java/util/Arrays", "copyOfRange", "([BII)[B"⟩ : MethodName)) hown (hw _ (List.mem_of_getElem? (i := 38) rfl)) (hw _ (List.mem_of_getElem? (i := 39) rfl)) (hw _ (List.mem_of_getElem? (i := 40) rfl)) (hw _ (List.mem_of_getElem? (i := 41) rfl)) (by decide) (argsL := [(.ref a), (.int 0), (.int 304)]) (rest := []) (W := 0) (rm_cr0 l Z a0 hw [] a (304 : Int32) f h0 n0 Z0 VA EA (by decide)) e118 (by rw [hml]; rfl) (lenOf pd_2 rfl) rfl (Nat.le_of_eq rfl) (hb hby d12_12) (by decide) (by decide) (by decide) (by decide) ?_
  intro v119 T119 L119 X119 hQ119
  obtain ⟨⟨r, rfl, hr, VR⟩, Nq119, K119⟩ := hQ119
  have N119 := Fr.app N0 Nq119
  exact own_retA X119 hx hlk hret rfl rfl (hb hby d12_15) (by decide) (by decide) (⟨⟨r, rfl, hr, VR⟩, N119, K119⟩)
theorem pd_5 : parseMethodDescriptor "(I)I" = some ⟨[.int], some .int⟩ := by decide +kernel
theorem pd_6 : parseMethodDescriptor "(I)[B" = some ⟨[.int], some (.array .byte)⟩ := by decide +kernel
theorem pd_7 : parseMethodDescriptor "([B)Lcom/example/linkvouch/linkvouch/apk/Der;" = some ⟨[(.array .byte)], some (.object "com/example/linkvouch/linkvouch/apk/Der")⟩ := by decide +kernel
theorem pd_8 : parseMethodDescriptor "()[B" = some ⟨[], some (.array .byte)⟩ := by decide +kernel
theorem pd_9 : parseMethodDescriptor "()I" = some ⟨[], some .int⟩ := by decide +kernel
theorem ef_law (m : MethodId) (p0 : Int32) (p1 : Int32) (p2 : Int32) : entryFrame m #[(.int p0), (.int p1), (.int p2)] maxLocals = mkF m 0 #[oI p0, oI p1, oI p2, .unset, .unset, .unset, .unset, .unset, .unset, .unset, .unset, .unset, .unset, .unset] [] := by first | (simp [entryFrame, mkF, argsToLocals, Value.category, maxLocals]; done) | rfl
def Q_law (Z : State) (p0 : Int32) (p1 : Int32) (p2 : Int32) (h0 : Heap) (n0 : Nat) : Option Value → Heap → List Loc → Prop := fun v h L => v = some (.int 1) ∧ Fr n0 L
set_option maxRecDepth 65536 in
set_option maxHeartbeats 40000000 in
theorem rm_law (l : Launch) (Z : State) (a0 : Array Value) (hw : ∀ d ∈ tables_1, d.before a0 Z = true) (ws : List Jvm.Cond) (p0 : Int32) (p1 : Int32) (p2 : Int32) (h0 : Heap) (n0 : Nat) (Z0 : n0 ≤ h0.size)  :
    MetFree l x (head1 (Jvm.Cond.code x code maxLocals ret :: ws) room_1) (fun aX U => aX = #[(.int p0), (.int p1), (.int p2)] ∧ Z.Warmed39 U.vm ∧ U.heap = h0) (fun _ _ _ _ _ => True) (fun _ U o U' => ∃ v L, o = .returned v ∧ (Q_law Z p0 p1 p2 h0 n0) v U'.heap L ∧ FrameEnd U o U' L room_1.cells room_1.slots) := by
  refine own_met (Q := (Q_law Z p0 p1 p2 h0 n0)) (plainFor_of_name (x := x) pn_2) (fun m => ef_law m p0 p1 p2) ?_
  intro p e s m below meth cD s₁ hx hby hml hret hlk hZ hown hnm X0 e0 hs0
  have hml : cD.maxLocals = 14 := hml
  have hown : s.vm.findClass "com/example/linkvouch/linkvouch/apk/DerParsePinLaw" = some m.cls := hown
  have N0 := Fr.nil n0
  refine own_st (fr' := (mkF m 1 #[oI p0, oI p1, oI p2, .unset, .unset, .unset, .unset, .unset, .unset, .unset, .unset, .unset, .unset, .unset] [(.int p0)])) (fun t k => XS.iloadN X0.here hx rfl (hb hby at_0) rfl  k) ?_
  refine own_st (fr' := (mkF m 3 #[oI p0, oI p1, oI p2, .unset, .unset, .unset, .unset, .unset, .unset, .unset, .unset, .unset, .unset, .unset] [(.int 7), (.int p0)])) (fun t k => XS.bipush X0.here hx rfl (hb hby at_1) k) ?_
  refine own_st (fr' := (mkF m 4 #[oI p0, oI p1, oI p2, .unset, .unset, .unset, .unset, .unset, .unset, .unset, .unset, .unset, .unset, .unset] [(.int (p0 &&& (7 : Int32)))])) (fun t k => XS.iand X0.here hx rfl (hb hby at_3) rfl k) ?_
  refine own_st (fr' := (mkF m 5 #[oI p0, oI p1, oI p2, .val (.int (p0 &&& (7 : Int32))), .unset, .unset, .unset, .unset, .unset, .unset, .unset, .unset, .unset, .unset] [])) (fun t k => XS.istoreN X0.here hx rfl (hb hby at_4) rfl  (l' := #[oI p0, oI p1, oI p2, .val (.int (p0 &&& (7 : Int32))), .unset, .unset, .unset, .unset, .unset, .unset, .unset, .unset, .unset, .unset]) rfl k) ?_
  refine own_st (fr' := (mkF m 6 #[oI p0, oI p1, oI p2, .val (.int (p0 &&& (7 : Int32))), .unset, .unset, .unset, .unset, .unset, .unset, .unset, .unset, .unset, .unset] [(.int p1)])) (fun t k => XS.iloadN X0.here hx rfl (hb hby at_5) rfl  k) ?_
  refine own_st (fr' := (mkF m 9 #[oI p0, oI p1, oI p2, .val (.int (p0 &&& (7 : Int32))), .unset, .unset, .unset, .unset, .unset, .unset, .unset, .unset, .unset, .unset] [(.int 255), (.int p1)])) (fun t k => XS.sipush X0.here hx rfl (hb hby at_6) k) ?_
  refine own_st (fr' := (mkF m 10 #[oI p0, oI p1, oI p2, .val (.int (p0 &&& (7 : Int32))), .unset, .unset, .unset, .unset, .unset, .unset, .unset, .unset, .unset, .unset] [(.int (p1 &&& (255 : Int32)))])) (fun t k => XS.iand X0.here hx rfl (hb hby at_9) rfl k) ?_
  refine own_st (fr' := (mkF m 12 #[oI p0, oI p1, oI p2, .val (.int (p0 &&& (7 : Int32))), .val (.int (p1 &&& (255 : Int32))), .unset, .unset, .unset, .unset, .unset, .unset, .unset, .unset, .unset] [])) (fun t k => XS.istore X0.here hx rfl (hb hby at_10) rfl  (l' := #[oI p0, oI p1, oI p2, .val (.int (p0 &&& (7 : Int32))), .val (.int (p1 &&& (255 : Int32))), .unset, .unset, .unset, .unset, .unset, .unset, .unset, .unset, .unset]) rfl k) ?_
  have qf := c_mask p0 7 3 (by decide) (by decide)
  have qt := c_mask p1 255 8 (by decide) (by decide)
  generalize (p0 &&& (7 : Int32)) = fo at qf ⊢
  generalize (p1 &&& (255 : Int32)) = tq at qt ⊢
  have ht0 : 0 ≤ tq.toInt ∧ tq.toInt ≤ 255 := by omega
  suffices J120 : ∀ (z121_0 : Int32), (0 ≤ z121_0.toInt ∧ z121_0.toInt ≤ 255 ∧ ¬ (z121_0 &&& 31).toInt = 31) → Go p e below s room_1.cells room_1.slots (Q_law Z p0 p1 p2 h0 n0) s₁ (mkF m 28 #[oI p0, oI p1, oI p2, oI fo, oI z121_0, .unset, .unset, .unset, .unset, .unset, .unset, .unset, .unset, .unset] []) by
    refine own_st (fr' := (mkF m 14 #[oI p0, oI p1, oI p2, oI fo, oI tq, .unset, .unset, .unset, .unset, .unset, .unset, .unset, .unset, .unset] [(.int tq)])) (fun t k => XS.iload X0.here hx rfl (hb hby at_12) rfl  k) ?_
    refine own_st (fr' := (mkF m 16 #[oI p0, oI p1, oI p2, oI fo, oI tq, .unset, .unset, .unset, .unset, .unset, .unset, .unset, .unset, .unset] [(.int 31), (.int tq)])) (fun t k => XS.bipush X0.here hx rfl (hb hby at_14) k) ?_
    refine own_st (fr' := (mkF m 17 #[oI p0, oI p1, oI p2, oI fo, oI tq, .unset, .unset, .unset, .unset, .unset, .unset, .unset, .unset, .unset] [(.int (tq &&& (31 : Int32)))])) (fun t k => XS.iand X0.here hx rfl (hb hby at_16) rfl k) ?_
    refine own_st (fr' := (mkF m 19 #[oI p0, oI p1, oI p2, oI fo, oI tq, .unset, .unset, .unset, .unset, .unset, .unset, .unset, .unset, .unset] [(.int 31), (.int (tq &&& (31 : Int32)))])) (fun t k => XS.bipush X0.here hx rfl (hb hby at_17) k) ?_
    by_cases h31 : (tq &&& (31 : Int32)).toInt = 31
    · refine own_st (fr' := (mkF m 22 #[oI p0, oI p1, oI p2, oI fo, oI tq, .unset, .unset, .unset, .unset, .unset, .unset, .unset, .unset, .unset] [])) (fun t k => XS.icmpNo X0.here hx rfl (hb hby at_19) rfl (own_teq (x := (tq &&& (31 : Int32))) (y := (31 : Int32)) h31).2 k) ?_
      have qx := own_tag tq ht0.1 ht0.2 h31
      refine own_st (fr' := (mkF m 24 #[oI p0, oI p1, oI p2, oI fo, oI tq, .unset, .unset, .unset, .unset, .unset, .unset, .unset, .unset, .unset] [(.int tq)])) (fun t k => XS.iload X0.here hx rfl (hb hby at_22) rfl  k) ?_
      refine own_st (fr' := (mkF m 25 #[oI p0, oI p1, oI p2, oI fo, oI tq, .unset, .unset, .unset, .unset, .unset, .unset, .unset, .unset, .unset] [(.int 1), (.int tq)])) (fun t k => XS.iconst X0.here hx rfl (hb hby at_24) k) ?_
      refine own_st (fr' := (mkF m 26 #[oI p0, oI p1, oI p2, oI fo, oI tq, .unset, .unset, .unset, .unset, .unset, .unset, .unset, .unset, .unset] [(.int (tq ^^^ (1 : Int32)))])) (fun t k => XS.ixor X0.here hx rfl (hb hby at_25) rfl k) ?_
      refine own_st (fr' := (mkF m 28 #[oI p0, oI p1, oI p2, oI fo, .val (.int (tq ^^^ (1 : Int32))), .unset, .unset, .unset, .unset, .unset, .unset, .unset, .unset, .unset] [])) (fun t k => XS.istore X0.here hx rfl (hb hby at_26) rfl  (l' := #[oI p0, oI p1, oI p2, oI fo, .val (.int (tq ^^^ (1 : Int32))), .unset, .unset, .unset, .unset, .unset, .unset, .unset, .unset, .unset]) rfl k) ?_
      exact J120  (tq ^^^ (1 : Int32)) qx
    · refine own_st (fr' := (mkF m 28 #[oI p0, oI p1, oI p2, oI fo, oI tq, .unset, .unset, .unset, .unset, .unset, .unset, .unset, .unset, .unset] [])) (fun t k => XS.icmpYes X0.here hx rfl (pc0 := 19) (pc' := 28) rfl (hb hby at_19) rfl (own_feq (x := (tq &&& (31 : Int32))) (y := (31 : Int32)) h31).2 (by decide) (by decide) k) ?_
      exact J120  tq ⟨ht0.1, ht0.2, h31⟩
  intro z121_0 hz121
  have hfo : fo.toInt = 0 ∨ fo.toInt = 1 ∨ fo.toInt = 2 ∨ fo.toInt = 3 ∨ fo.toInt = 4 ∨ fo.toInt = 5 ∨ fo.toInt = 6 ∨ fo.toInt = 7 := by omega
  rcases hfo with hfo | hfo | hfo | hfo | hfo | hfo | hfo | hfo
  · obtain rfl : fo = (0 : Int32) := Int32.toInt_inj.mp hfo
    refine own_st (fr' := (mkF m 29 #[oI p0, oI p1, oI p2, oI 0, oI z121_0, .unset, .unset, .unset, .unset, .unset, .unset, .unset, .unset, .unset] [(.int 0)])) (fun t k => XS.iloadN X0.here hx rfl (hb hby at_28) rfl  k) ?_
    refine own_callS X0 hx hZ (y := (⟨"com/example/linkvouch/linkvouch/apk/DerParsePinLaw", "lengthOf", "(I)I"⟩ : MethodName)) hown (hw _ (List.mem_of_getElem? (i := 0) rfl)) (hw _ (List.mem_of_getElem? (i := 1) rfl)) (hw _ (List.mem_of_getElem? (i := 2) rfl)) (hw _ (List.mem_of_getElem? (i := 3) rfl)) (by decide) (argsL := [(.int 0)]) (rest := []) (W := 0) (rm_len0 l Z a0 hw []  h0 n0 Z0 ) e0 (by rw [hml]; rfl) (lenOf pd_5 rfl) rfl (Nat.le_of_eq rfl) (hb hby at_29) (by decide) (by decide) (by decide) (by decide) ?_
    intro v122 T122 L122 X122 hQ122
    obtain ⟨rfl, Nq122, eq122⟩ := hQ122
    have N122 := Fr.app N0 Nq122
    refine own_st (fr' := (mkF m 34 #[oI p0, oI p1, oI p2, oI 0, oI z121_0, oI 0, .unset, .unset, .unset, .unset, .unset, .unset, .unset, .unset] [])) (fun t k => XS.istore X122.here hx rfl (hb hby at_32) rfl  (l' := #[oI p0, oI p1, oI p2, oI 0, oI z121_0, oI 0, .unset, .unset, .unset, .unset, .unset, .unset, .unset, .unset]) rfl k) ?_
    refine own_st (fr' := (mkF m 35 #[oI p0, oI p1, oI p2, oI 0, oI z121_0, oI 0, .unset, .unset, .unset, .unset, .unset, .unset, .unset, .unset] [(.int 0)])) (fun t k => XS.iloadN X122.here hx rfl (hb hby at_34) rfl  k) ?_
    refine own_st (fr' := (mkF m 36 #[oI p0, oI p1, oI p2, oI 0, oI z121_0, oI 0, .unset, .unset, .unset, .unset, .unset, .unset, .unset, .unset] [(.int 4), (.int 0)])) (fun t k => XS.iconst X122.here hx rfl (hb hby at_35) k) ?_
    refine own_st (fr' := (mkF m 39 #[oI p0, oI p1, oI p2, oI 0, oI z121_0, oI 0, .unset, .unset, .unset, .unset, .unset, .unset, .unset, .unset] [])) (fun t k => XS.icmpNo X122.here hx rfl (hb hby at_36) rfl (own_tlt (x := (0 : Int32)) (y := (4 : Int32)) (show 0 < 4 from by decide)).2.1 k) ?_
    refine own_st (fr' := (mkF m 40 #[oI p0, oI p1, oI p2, oI 0, oI z121_0, oI 0, .unset, .unset, .unset, .unset, .unset, .unset, .unset, .unset] [(.int 2)])) (fun t k => XS.iconst X122.here hx rfl (hb hby at_39) k) ?_
    refine own_st (fr' := (mkF m 42 #[oI p0, oI p1, oI p2, oI 0, oI z121_0, oI 0, oI 2, .unset, .unset, .unset, .unset, .unset, .unset, .unset] [])) (fun t k => XS.istore X122.here hx rfl (hb hby at_40) rfl  (l' := #[oI p0, oI p1, oI p2, oI 0, oI z121_0, oI 0, oI 2, .unset, .unset, .unset, .unset, .unset, .unset, .unset]) rfl k) ?_
    refine own_st (fr' := (mkF m 60 #[oI p0, oI p1, oI p2, oI 0, oI z121_0, oI 0, oI 2, .unset, .unset, .unset, .unset, .unset, .unset, .unset] [])) (fun t k => XS.goto X122.here hx rfl (pc0 := 42) (pc' := 60) rfl (hb hby at_42) (by decide) (by decide) k) ?_
    refine own_st (fr' := (mkF m 61 #[oI p0, oI p1, oI p2, oI 0, oI z121_0, oI 0, oI 2, .unset, .unset, .unset, .unset, .unset, .unset, .unset] [(.int 0)])) (fun t k => XS.iloadN X122.here hx rfl (hb hby at_60) rfl  k) ?_
    refine own_callS X122 hx hZ (y := (⟨"com/example/linkvouch/linkvouch/apk/DerParsePinLaw", "alloc", "(I)[B"⟩ : MethodName)) hown (hw _ (List.mem_of_getElem? (i := 4) rfl)) (hw _ (List.mem_of_getElem? (i := 5) rfl)) (hw _ (List.mem_of_getElem? (i := 2) rfl)) (hw _ (List.mem_of_getElem? (i := 6) rfl)) (by decide) (argsL := [(.int 0)]) (rest := []) (W := 0) (rm_alloc0 l Z a0 hw []  h0 n0 Z0 ) eq122 (by rw [hml]; rfl) (lenOf pd_6 rfl) rfl (Nat.le_of_eq rfl) (hb hby at_61) (by decide) (by decide) (by decide) (by decide) ?_
    intro v123 T123 L123 X123 hQ123
    obtain ⟨⟨ar, rfl, har, ge_ar, VA, EA⟩, Nq123, K123⟩ := hQ123
    have N123 := Fr.app N122 Nq123
    refine own_st (fr' := (mkF m 66 #[oI p0, oI p1, oI p2, oI 0, oI z121_0, oI 0, oI 2, .val (.ref ar), .unset, .unset, .unset, .unset, .unset, .unset] [])) (fun t k => XS.astore X123.here hx rfl (hb hby at_64) rfl rfl (l' := #[oI p0, oI p1, oI p2, oI 0, oI z121_0, oI 0, oI 2, .val (.ref ar), .unset, .unset, .unset, .unset, .unset, .unset]) rfl k) ?_
    refine own_st (fr' := (mkF m 68 #[oI p0, oI p1, oI p2, oI 0, oI z121_0, oI 0, oI 2, .val (.ref ar), .unset, .unset, .unset, .unset, .unset, .unset] [(.ref ar)])) (fun t k => XS.aload X123.here hx rfl (hb hby at_66) rfl rfl k) ?_
    refine own_st (fr' := (mkF m 69 #[oI p0, oI p1, oI p2, oI 0, oI z121_0, oI 0, oI 2, .val (.ref ar), .unset, .unset, .unset, .unset, .unset, .unset] [(.int 0), (.ref ar)])) (fun t k => XS.iconst X123.here hx rfl (hb hby at_68) k) ?_
    refine own_st (fr' := (mkF m 71 #[oI p0, oI p1, oI p2, oI 0, oI z121_0, oI 0, oI 2, .val (.ref ar), .unset, .unset, .unset, .unset, .unset, .unset] [(.int z121_0), (.int 0), (.ref ar)])) (fun t k => XS.iload X123.here hx rfl (hb hby at_69) rfl  k) ?_
    refine own_st (fr' := (mkF m 72 #[oI p0, oI p1, oI p2, oI 0, oI z121_0, oI 0, oI 2, .val (.ref ar), .unset, .unset, .unset, .unset, .unset, .unset] [(.int (z121_0.toInt8.toInt32)), (.int 0), (.ref ar)])) (fun t k => XS.i2b X123.here hx rfl (hb hby at_71) rfl k) ?_
    have qb := c_i2b z121_0
    generalize hTB : (z121_0.toInt8.toInt32) = tb at qb ⊢
    have hnb : nar .byte tb = tb := own_narb qb.2.1 (by omega)
    refine own_bastore X123 hx hZ rfl VA (by decide) (by decide) (hb hby at_72) ?_
    intro T124 h124 X124 e124 W124 V124
    have N124 := Fr.snoc X124 N123 ge_ar
    refine own_st (fr' := (mkF m 74 #[oI p0, oI p1, oI p2, oI 0, oI z121_0, oI 0, oI 2, .val (.ref ar), .unset, .unset, .unset, .unset, .unset, .unset] [(.int 0)])) (fun t k => XS.iloadN X124.here hx rfl (hb hby at_73) rfl  k) ?_
    refine own_st (fr' := (mkF m 75 #[oI p0, oI p1, oI p2, oI 0, oI z121_0, oI 0, oI 2, .val (.ref ar), .unset, .unset, .unset, .unset, .unset, .unset] [(.int 4), (.int 0)])) (fun t k => XS.iconst X124.here hx rfl (hb hby at_74) k) ?_
    refine own_st (fr' := (mkF m 78 #[oI p0, oI p1, oI p2, oI 0, oI z121_0, oI 0, oI 2, .val (.ref ar), .unset, .unset, .unset, .unset, .unset, .unset] [])) (fun t k => XS.icmpNo X124.here hx rfl (hb hby at_75) rfl (own_tlt (x := (0 : Int32)) (y := (4 : Int32)) (show 0 < 4 from by decide)).2.1 k) ?_
    refine own_st (fr' := (mkF m 80 #[oI p0, oI p1, oI p2, oI 0, oI z121_0, oI 0, oI 2, .val (.ref ar), .unset, .unset, .unset, .unset, .unset, .unset] [(.ref ar)])) (fun t k => XS.aload X124.here hx rfl (hb hby at_78) rfl rfl k) ?_
    refine own_st (fr' := (mkF m 81 #[oI p0, oI p1, oI p2, oI 0, oI z121_0, oI 0, oI 2, .val (.ref ar), .unset, .unset, .unset, .unset, .unset, .unset] [(.int 1), (.ref ar)])) (fun t k => XS.iconst X124.here hx rfl (hb hby at_80) k) ?_
    refine own_st (fr' := (mkF m 83 #[oI p0, oI p1, oI p2, oI 0, oI z121_0, oI 0, oI 2, .val (.ref ar), .unset, .unset, .unset, .unset, .unset, .unset] [(.int 0), (.int 1), (.ref ar)])) (fun t k => XS.iload X124.here hx rfl (hb hby at_81) rfl  k) ?_
    refine own_st (fr' := (mkF m 84 #[oI p0, oI p1, oI p2, oI 0, oI z121_0, oI 0, oI 2, .val (.ref ar), .unset, .unset, .unset, .unset, .unset, .unset] [(.int 0), (.int 1), (.ref ar)])) (fun t k => XS.i2b X124.here hx rfl (hb hby at_83) rfl k) ?_
    refine own_bastore X124 hx hZ e124 V124 (by decide) (by decide) (hb hby at_84) ?_
    intro T125 h125 X125 e125 W125 V125
    have N125 := Fr.snoc X125 N124 ge_ar
    refine own_st (fr' := (mkF m 133 #[oI p0, oI p1, oI p2, oI 0, oI z121_0, oI 0, oI 2, .val (.ref ar), .unset, .unset, .unset, .unset, .unset, .unset] [])) (fun t k => XS.goto X125.here hx rfl (pc0 := 85) (pc' := 133) rfl (hb hby at_85) (by decide) (by decide) k) ?_
    refine own_st (fr' := (mkF m 134 #[oI p0, oI p1, oI p2, oI 0, oI z121_0, oI 0, oI 2, .val (.ref ar), .unset, .unset, .unset, .unset, .unset, .unset] [(.int p2)])) (fun t k => XS.iloadN X125.here hx rfl (hb hby at_133) rfl  k) ?_
    refine own_st (fr' := (mkF m 135 #[oI p0, oI p1, oI p2, oI 0, oI z121_0, oI 0, oI 2, .val (.ref ar), .unset, .unset, .unset, .unset, .unset, .unset] [(.int (p2.toInt8.toInt32))])) (fun t k => XS.i2b X125.here hx rfl (hb hby at_134) rfl k) ?_
    refine own_st (fr' := (mkF m 137 #[oI p0, oI p1, oI p2, oI 0, oI z121_0, oI 0, oI 2, .val (.ref ar), .val (.int (p2.toInt8.toInt32)), .unset, .unset, .unset, .unset, .unset] [])) (fun t k => XS.istore X125.here hx rfl (hb hby at_135) rfl  (l' := #[oI p0, oI p1, oI p2, oI 0, oI z121_0, oI 0, oI 2, .val (.ref ar), .val (.int (p2.toInt8.toInt32)), .unset, .unset, .unset, .unset, .unset]) rfl k) ?_
    have q1 := c_i2b p2
    generalize hFI : p2.toInt8.toInt32 = fi at q1 ⊢
    have hnf : nar .byte fi = fi := own_narb q1.2.1 (by omega)
    refine own_st (fr' := (mkF m 138 #[oI p0, oI p1, oI p2, oI 0, oI z121_0, oI 0, oI 2, .val (.ref ar), oI fi, .unset, .unset, .unset, .unset, .unset] [(.int p2)])) (fun t k => XS.iloadN X125.here hx rfl (hb hby at_137) rfl  k) ?_
    refine own_st (fr' := (mkF m 140 #[oI p0, oI p1, oI p2, oI 0, oI z121_0, oI 0, oI 2, .val (.ref ar), oI fi, .unset, .unset, .unset, .unset, .unset] [(.int 8), (.int p2)])) (fun t k => XS.bipush X125.here hx rfl (hb hby at_138) k) ?_
    refine own_st (fr' := (mkF m 141 #[oI p0, oI p1, oI p2, oI 0, oI z121_0, oI 0, oI 2, .val (.ref ar), oI fi, .unset, .unset, .unset, .unset, .unset] [(.int (p2 >>> ((8 : Int32) &&& 31)))])) (fun t k => XS.ishr X125.here hx rfl (hb hby at_140) rfl k) ?_
    refine own_st (fr' := (mkF m 142 #[oI p0, oI p1, oI p2, oI 0, oI z121_0, oI 0, oI 2, .val (.ref ar), oI fi, .unset, .unset, .unset, .unset, .unset] [(.int ((p2 >>> ((8 : Int32) &&& 31)).toInt8.toInt32))])) (fun t k => XS.i2b X125.here hx rfl (hb hby at_141) rfl k) ?_
    refine own_st (fr' := (mkF m 144 #[oI p0, oI p1, oI p2, oI 0, oI z121_0, oI 0, oI 2, .val (.ref ar), oI fi, .val (.int ((p2 >>> ((8 : Int32) &&& 31)).toInt8.toInt32)), .unset, .unset, .unset, .unset] [])) (fun t k => XS.istore X125.here hx rfl (hb hby at_142) rfl  (l' := #[oI p0, oI p1, oI p2, oI 0, oI z121_0, oI 0, oI 2, .val (.ref ar), oI fi, .val (.int ((p2 >>> ((8 : Int32) &&& 31)).toInt8.toInt32)), .unset, .unset, .unset, .unset]) rfl k) ?_
    have q2 := c_i2b (p2 >>> ((8 : Int32) &&& 31))
    generalize hSE : (p2 >>> ((8 : Int32) &&& 31)).toInt8.toInt32 = se at q2 ⊢
    have hns : nar .byte se = se := own_narb q2.2.1 (by omega)
    refine own_st (fr' := (mkF m 146 #[oI p0, oI p1, oI p2, oI 0, oI z121_0, oI 0, oI 2, .val (.ref ar), oI fi, oI se, .unset, .unset, .unset, .unset] [(.int 0)])) (fun t k => XS.iload X125.here hx rfl (hb hby at_144) rfl  k) ?_
    refine own_st (fr' := (mkF m 147 #[oI p0, oI p1, oI p2, oI 0, oI z121_0, oI 0, oI 2, .val (.ref ar), oI fi, oI se, .unset, .unset, .unset, .unset] [(.int 1), (.int 0)])) (fun t k => XS.iconst X125.here hx rfl (hb hby at_146) k) ?_
    refine own_st (fr' := (mkF m 157 #[oI p0, oI p1, oI p2, oI 0, oI z121_0, oI 0, oI 2, .val (.ref ar), oI fi, oI se, .unset, .unset, .unset, .unset] [])) (fun t k => XS.icmpYes X125.here hx rfl (pc0 := 147) (pc' := 157) rfl (hb hby at_147) rfl (own_tlt (x := (0 : Int32)) (y := (1 : Int32)) (show 0 < 1 from by decide)).1 (by decide) (by decide) k) ?_
    refine own_st (fr' := (mkF m 159 #[oI p0, oI p1, oI p2, oI 0, oI z121_0, oI 0, oI 2, .val (.ref ar), oI fi, oI se, .unset, .unset, .unset, .unset] [(.int 0)])) (fun t k => XS.iload X125.here hx rfl (hb hby at_157) rfl  k) ?_
    refine own_st (fr' := (mkF m 160 #[oI p0, oI p1, oI p2, oI 0, oI z121_0, oI 0, oI 2, .val (.ref ar), oI fi, oI se, .unset, .unset, .unset, .unset] [(.int 2), (.int 0)])) (fun t k => XS.iconst X125.here hx rfl (hb hby at_159) k) ?_
    refine own_st (fr' := (mkF m 175 #[oI p0, oI p1, oI p2, oI 0, oI z121_0, oI 0, oI 2, .val (.ref ar), oI fi, oI se, .unset, .unset, .unset, .unset] [])) (fun t k => XS.icmpYes X125.here hx rfl (pc0 := 160) (pc' := 175) rfl (hb hby at_160) rfl (own_tlt (x := (0 : Int32)) (y := (2 : Int32)) (show 0 < 2 from by decide)).1 (by decide) (by decide) k) ?_
    obtain ⟨ff, VF, hv⟩ : ∃ ff : Nat → Value, own_A Z h125 ar .byte 2 ff ∧ (ff 0 = .int tb ∧ ff 1 = .int (0 : Int32)) := ⟨_, V125, by show Value.int (nar .byte tb) = _; rw [hnb], rfl⟩
    obtain ⟨hv0, hv1⟩ := hv
    have hbk : tb &&& 255 = z121_0 := own_back z121_0 tb hz121.1 hz121.2.1 (by omega)
    refine own_st (fr' := (mkF m 177 #[oI p0, oI p1, oI p2, oI 0, oI z121_0, oI 0, oI 2, .val (.ref ar), oI fi, oI se, .unset, .unset, .unset, .unset] [(.ref ar)])) (fun t k => XS.aload X125.here hx rfl (hb hby at_175) rfl rfl k) ?_
    refine own_callS X125 hx hZ (y := (⟨"com/example/linkvouch/linkvouch/apk/Der", "parse", "([B)Lcom/example/linkvouch/linkvouch/apk/Der;"⟩ : MethodName)) hown (hw _ (List.mem_of_getElem? (i := 8) rfl)) (hw _ (List.mem_of_getElem? (i := 9) rfl)) (hw _ (List.mem_of_getElem? (i := 10) rfl)) (hw _ (List.mem_of_getElem? (i := 11) rfl)) (by decide) (argsL := [(.ref ar)]) (rest := []) (W := 0) (rm_parse0 l Z a0 hw [] ar tb ff h125 n0 (Nat.le_trans (Nat.le_trans (Nat.le_trans Z0 K123.1) (Nat.le_of_eq (Wr.size W124).symm)) (Nat.le_of_eq (Wr.size W125).symm)) VF hv0 hv1 (by rw [hbk]; exact hz121.2.2)) e125 (by rw [hml]; rfl) (lenOf pd_7 rfl) rfl (Nat.le_of_eq rfl) (hb hby at_177) (by decide) (by decide) (by decide) (by decide) ?_
    intro v126 T126 L126 X126 hQ126
    obtain ⟨⟨d, rfl, hd0, Ed, Fd0, Fd1, Fd2, Fd3, Fd4⟩, Nq126, K126⟩ := hQ126
    rw [hbk] at Fd1
    have N126 := Fr.app N125 Nq126
    refine own_st (fr' := (mkF m 182 #[oI p0, oI p1, oI p2, oI 0, oI z121_0, oI 0, oI 2, .val (.ref ar), oI fi, oI se, .val (.ref d), .unset, .unset, .unset] [])) (fun t k => XS.astore X126.here hx rfl (hb hby at_180) rfl rfl (l' := #[oI p0, oI p1, oI p2, oI 0, oI z121_0, oI 0, oI 2, .val (.ref ar), oI fi, oI se, .val (.ref d), .unset, .unset, .unset]) rfl k) ?_
    refine own_st (fr' := (mkF m 184 #[oI p0, oI p1, oI p2, oI 0, oI z121_0, oI 0, oI 2, .val (.ref ar), oI fi, oI se, .val (.ref d), .unset, .unset, .unset] [(.ref d)])) (fun t k => XS.aload X126.here hx rfl (hb hby at_182) rfl rfl k) ?_
    refine own_callV X126 hx hZ (y := (⟨"com/example/linkvouch/linkvouch/apk/Der", "content", "()[B"⟩ : MethodName)) (z := (⟨"com/example/linkvouch/linkvouch/apk/Der", "content", "()[B"⟩ : MethodName)) hown (hw _ (List.mem_of_getElem? (i := 33) rfl)) (hw _ (List.mem_of_getElem? (i := 34) rfl)) (notFace_of_selects (args := #[]) (mvT hZ (hw _ (List.mem_of_getElem? (i := 36) rfl)))) (hw _ (List.mem_of_getElem? (i := 36) rfl)) (hw _ (List.mem_of_getElem? (i := 35) rfl)) (hw _ (List.mem_of_getElem? (i := 10) rfl)) (hw _ (List.mem_of_getElem? (i := 37) rfl)) (by decide) (a := d) (argsL := []) (rest := []) (W := 0) (rm_cont0 l Z a0 hw [] d ar ff T126.heap n0 (Nat.le_trans (Nat.le_trans (Nat.le_trans (Nat.le_trans Z0 K123.1) (Nat.le_of_eq (Wr.size W124).symm)) (Nat.le_of_eq (Wr.size W125).symm)) K126.1) Fd0 (VF.keep K126 nin0) ((Exa.wr W125 (Exa.wr W124 EA)).keep K126) Fd4 Fd3) rfl Ed (by rw [hml]; rfl) (lenOf pd_8 rfl) rfl (Nat.le_of_eq rfl) (hb hby at_184) (by decide) (by decide) (by decide) (by decide) ?_
    intro v127 T127 L127 X127 hQ127
    obtain ⟨⟨co, gc, rfl, hco, VC, hgc⟩, Nq127, K127⟩ := hQ127
    have N127 := Fr.app N126 Nq127
    refine own_st (fr' := (mkF m 189 #[oI p0, oI p1, oI p2, oI 0, oI z121_0, oI 0, oI 2, .val (.ref ar), oI fi, oI se, .val (.ref d), .val (.ref co), .unset, .unset] [])) (fun t k => XS.astore X127.here hx rfl (hb hby at_187) rfl rfl (l' := #[oI p0, oI p1, oI p2, oI 0, oI z121_0, oI 0, oI 2, .val (.ref ar), oI fi, oI se, .val (.ref d), .val (.ref co), .unset, .unset]) rfl k) ?_
    refine own_st (fr' := (mkF m 191 #[oI p0, oI p1, oI p2, oI 0, oI z121_0, oI 0, oI 2, .val (.ref ar), oI fi, oI se, .val (.ref d), .val (.ref co), .unset, .unset] [(.ref d)])) (fun t k => XS.aload X127.here hx rfl (hb hby at_189) rfl rfl k) ?_
    refine own_callV X127 hx hZ (y := (⟨"com/example/linkvouch/linkvouch/apk/Der", "encoded", "()[B"⟩ : MethodName)) (z := (⟨"com/example/linkvouch/linkvouch/apk/Der", "encoded", "()[B"⟩ : MethodName)) hown (hw _ (List.mem_of_getElem? (i := 56) rfl)) (hw _ (List.mem_of_getElem? (i := 57) rfl)) (notFace_of_selects (args := #[]) (mvT hZ (hw _ (List.mem_of_getElem? (i := 59) rfl)))) (hw _ (List.mem_of_getElem? (i := 59) rfl)) (hw _ (List.mem_of_getElem? (i := 58) rfl)) (hw _ (List.mem_of_getElem? (i := 10) rfl)) (hw _ (List.mem_of_getElem? (i := 60) rfl)) (by decide) (a := d) (argsL := []) (rest := []) (W := 0) (rm_enc0 l Z a0 hw [] d ar ff T127.heap n0 (Nat.le_trans (Nat.le_trans (Nat.le_trans (Nat.le_trans (Nat.le_trans Z0 K123.1) (Nat.le_of_eq (Wr.size W124).symm)) (Nat.le_of_eq (Wr.size W125).symm)) K126.1) K127.1) (Fd0.keep K127 nin0) ((VF.keep K126 nin0).keep K127 nin0) (((Exa.wr W125 (Exa.wr W124 EA)).keep K126).keep K127) (Fd4.keep K127 nin0) (Fd2.keep K127 nin0)) rfl (Ed.keep K127) (by rw [hml]; rfl) (lenOf pd_8 rfl) rfl (Nat.le_of_eq rfl) (hb hby at_191) (by decide) (by decide) (by decide) (by decide) ?_
    intro v128 T128 L128 X128 hQ128
    obtain ⟨⟨ec, rfl, hec, VE⟩, Nq128, K128⟩ := hQ128
    have N128 := Fr.app N127 Nq128
    refine own_st (fr' := (mkF m 196 #[oI p0, oI p1, oI p2, oI 0, oI z121_0, oI 0, oI 2, .val (.ref ar), oI fi, oI se, .val (.ref d), .val (.ref co), .val (.ref ec), .unset] [])) (fun t k => XS.astore X128.here hx rfl (hb hby at_194) rfl rfl (l' := #[oI p0, oI p1, oI p2, oI 0, oI z121_0, oI 0, oI 2, .val (.ref ar), oI fi, oI se, .val (.ref d), .val (.ref co), .val (.ref ec), .unset]) rfl k) ?_
    refine own_st (fr' := (mkF m 198 #[oI p0, oI p1, oI p2, oI 0, oI z121_0, oI 0, oI 2, .val (.ref ar), oI fi, oI se, .val (.ref d), .val (.ref co), .val (.ref ec), .unset] [(.ref d)])) (fun t k => XS.aload X128.here hx rfl (hb hby at_196) rfl rfl k) ?_
    refine own_callV X128 hx hZ (y := (⟨"com/example/linkvouch/linkvouch/apk/Der", "tag", "()I"⟩ : MethodName)) (z := (⟨"com/example/linkvouch/linkvouch/apk/Der", "tag", "()I"⟩ : MethodName)) hown (hw _ (List.mem_of_getElem? (i := 70) rfl)) (hw _ (List.mem_of_getElem? (i := 71) rfl)) (notFace_of_selects (args := #[]) (mvT hZ (hw _ (List.mem_of_getElem? (i := 73) rfl)))) (hw _ (List.mem_of_getElem? (i := 73) rfl)) (hw _ (List.mem_of_getElem? (i := 72) rfl)) (hw _ (List.mem_of_getElem? (i := 10) rfl)) (hw _ (List.mem_of_getElem? (i := 74) rfl)) (by decide) (a := d) (argsL := []) (rest := []) (W := 0) (rm_tag l Z a0 hw [] d z121_0 T128.heap n0 (Nat.le_trans (Nat.le_trans (Nat.le_trans (Nat.le_trans (Nat.le_trans (Nat.le_trans Z0 K123.1) (Nat.le_of_eq (Wr.size W124).symm)) (Nat.le_of_eq (Wr.size W125).symm)) K126.1) K127.1) K128.1) ((Fd1.keep K127 nin0).keep K128 nin0)) rfl ((Ed.keep K127).keep K128) (by rw [hml]; rfl) (lenOf pd_9 rfl) rfl (Nat.le_of_eq rfl) (hb hby at_198) (by decide) (by decide) (by decide) (by decide) ?_
    intro v129 T129 L129 X129 hQ129
    obtain ⟨rfl, Nq129, eq129⟩ := hQ129
    have N129 := Fr.app N128 Nq129
    refine own_st (fr' := (mkF m 203 #[oI p0, oI p1, oI p2, oI 0, oI z121_0, oI 0, oI 2, .val (.ref ar), oI fi, oI se, .val (.ref d), .val (.ref co), .val (.ref ec), .unset] [(.int z121_0), (.int z121_0)])) (fun t k => XS.iload X129.here hx rfl (hb hby at_201) rfl  k) ?_
    refine own_st (fr' := (mkF m 206 #[oI p0, oI p1, oI p2, oI 0, oI z121_0, oI 0, oI 2, .val (.ref ar), oI fi, oI se, .val (.ref d), .val (.ref co), .val (.ref ec), .unset] [])) (fun t k => XS.icmpNo X129.here hx rfl (hb hby at_203) rfl (own_teq (x := z121_0) (y := z121_0) (show z121_0.toInt = z121_0.toInt from rfl)).2 k) ?_
    refine own_st (fr' := (mkF m 207 #[oI p0, oI p1, oI p2, oI 0, oI z121_0, oI 0, oI 2, .val (.ref ar), oI fi, oI se, .val (.ref d), .val (.ref co), .val (.ref ec), .unset] [(.int 1)])) (fun t k => XS.iconst X129.here hx rfl (hb hby at_206) k) ?_
    refine own_st (fr' := (mkF m 211 #[oI p0, oI p1, oI p2, oI 0, oI z121_0, oI 0, oI 2, .val (.ref ar), oI fi, oI se, .val (.ref d), .val (.ref co), .val (.ref ec), .unset] [(.int 1)])) (fun t k => XS.goto X129.here hx rfl (pc0 := 207) (pc' := 211) rfl (hb hby at_207) (by decide) (by decide) k) ?_
    refine own_st (fr' := (mkF m 213 #[oI p0, oI p1, oI p2, oI 0, oI z121_0, oI 0, oI 2, .val (.ref ar), oI fi, oI se, .val (.ref d), .val (.ref co), .val (.ref ec), oI 1] [])) (fun t k => XS.istore X129.here hx rfl (hb hby at_211) rfl  (l' := #[oI p0, oI p1, oI p2, oI 0, oI z121_0, oI 0, oI 2, .val (.ref ar), oI fi, oI se, .val (.ref d), .val (.ref co), .val (.ref ec), oI 1]) rfl k) ?_
    refine own_st (fr' := (mkF m 215 #[oI p0, oI p1, oI p2, oI 0, oI z121_0, oI 0, oI 2, .val (.ref ar), oI fi, oI se, .val (.ref d), .val (.ref co), .val (.ref ec), oI 1] [(.int 1)])) (fun t k => XS.iload X129.here hx rfl (hb hby at_213) rfl  k) ?_
    refine own_st (fr' := (mkF m 218 #[oI p0, oI p1, oI p2, oI 0, oI z121_0, oI 0, oI 2, .val (.ref ar), oI fi, oI se, .val (.ref d), .val (.ref co), .val (.ref ec), oI 1] [])) (fun t k => XS.ifNo X129.here hx rfl (hb hby at_215) rfl ((if0 _ _).trans (own_feq (x := (1 : Int32)) (y := (0 : Int32)) (show ¬ 1 = 0 from by decide)).1) k) ?_
    refine own_st (fr' := (mkF m 220 #[oI p0, oI p1, oI p2, oI 0, oI z121_0, oI 0, oI 2, .val (.ref ar), oI fi, oI se, .val (.ref d), .val (.ref co), .val (.ref ec), oI 1] [(.ref co)])) (fun t k => XS.aload X129.here hx rfl (hb hby at_218) rfl rfl k) ?_
    refine own_alen X129 hx hZ eq129 (VC.keep K128 nin0) (hb hby at_220) ?_
    refine own_st (fr' := (mkF m 223 #[oI p0, oI p1, oI p2, oI 0, oI z121_0, oI 0, oI 2, .val (.ref ar), oI fi, oI se, .val (.ref d), .val (.ref co), .val (.ref ec), oI 1] [(.int 0), (.int 0)])) (fun t k => XS.iload X129.here hx rfl (hb hby at_221) rfl  k) ?_
    refine own_st (fr' := (mkF m 226 #[oI p0, oI p1, oI p2, oI 0, oI z121_0, oI 0, oI 2, .val (.ref ar), oI fi, oI se, .val (.ref d), .val (.ref co), .val (.ref ec), oI 1] [])) (fun t k => XS.icmpNo X129.here hx rfl (hb hby at_223) rfl (own_teq (x := (0 : Int32)) (y := (0 : Int32)) (show 0 = 0 from by decide)).2 k) ?_
    refine own_st (fr' := (mkF m 227 #[oI p0, oI p1, oI p2, oI 0, oI z121_0, oI 0, oI 2, .val (.ref ar), oI fi, oI se, .val (.ref d), .val (.ref co), .val (.ref ec), oI 1] [(.int 1)])) (fun t k => XS.iconst X129.here hx rfl (hb hby at_226) k) ?_
    refine own_st (fr' := (mkF m 231 #[oI p0, oI p1, oI p2, oI 0, oI z121_0, oI 0, oI 2, .val (.ref ar), oI fi, oI se, .val (.ref d), .val (.ref co), .val (.ref ec), oI 1] [(.int 1)])) (fun t k => XS.goto X129.here hx rfl (pc0 := 227) (pc' := 231) rfl (hb hby at_227) (by decide) (by decide) k) ?_
    refine own_st (fr' := (mkF m 233 #[oI p0, oI p1, oI p2, oI 0, oI z121_0, oI 0, oI 2, .val (.ref ar), oI fi, oI se, .val (.ref d), .val (.ref co), .val (.ref ec), oI 1] [])) (fun t k => XS.istore X129.here hx rfl (hb hby at_231) rfl  (l' := #[oI p0, oI p1, oI p2, oI 0, oI z121_0, oI 0, oI 2, .val (.ref ar), oI fi, oI se, .val (.ref d), .val (.ref co), .val (.ref ec), oI 1]) rfl k) ?_
    refine own_st (fr' := (mkF m 235 #[oI p0, oI p1, oI p2, oI 0, oI z121_0, oI 0, oI 2, .val (.ref ar), oI fi, oI se, .val (.ref d), .val (.ref co), .val (.ref ec), oI 1] [(.int 1)])) (fun t k => XS.iload X129.here hx rfl (hb hby at_233) rfl  k) ?_
    refine own_st (fr' := (mkF m 238 #[oI p0, oI p1, oI p2, oI 0, oI z121_0, oI 0, oI 2, .val (.ref ar), oI fi, oI se, .val (.ref d), .val (.ref co), .val (.ref ec), oI 1] [])) (fun t k => XS.ifNo X129.here hx rfl (hb hby at_235) rfl ((if0 _ _).trans (own_feq (x := (1 : Int32)) (y := (0 : Int32)) (show ¬ 1 = 0 from by decide)).1) k) ?_
    refine own_st (fr' := (mkF m 240 #[oI p0, oI p1, oI p2, oI 0, oI z121_0, oI 0, oI 2, .val (.ref ar), oI fi, oI se, .val (.ref d), .val (.ref co), .val (.ref ec), oI 1] [(.ref ec)])) (fun t k => XS.aload X129.here hx rfl (hb hby at_238) rfl rfl k) ?_
    refine own_alen X129 hx hZ eq129 VE (hb hby at_240) ?_
    refine own_st (fr' := (mkF m 243 #[oI p0, oI p1, oI p2, oI 0, oI z121_0, oI 0, oI 2, .val (.ref ar), oI fi, oI se, .val (.ref d), .val (.ref co), .val (.ref ec), oI 1] [(.ref ar), (.int 2)])) (fun t k => XS.aload X129.here hx rfl (hb hby at_241) rfl rfl k) ?_
    refine own_alen X129 hx hZ eq129 (((VF.keep K126 nin0).keep K127 nin0).keep K128 nin0) (hb hby at_243) ?_
    refine own_st (fr' := (mkF m 247 #[oI p0, oI p1, oI p2, oI 0, oI z121_0, oI 0, oI 2, .val (.ref ar), oI fi, oI se, .val (.ref d), .val (.ref co), .val (.ref ec), oI 1] [])) (fun t k => XS.icmpNo X129.here hx rfl (hb hby at_244) rfl (own_teq (x := (2 : Int32)) (y := (2 : Int32)) (show 2 = 2 from by decide)).2 k) ?_
    refine own_st (fr' := (mkF m 248 #[oI p0, oI p1, oI p2, oI 0, oI z121_0, oI 0, oI 2, .val (.ref ar), oI fi, oI se, .val (.ref d), .val (.ref co), .val (.ref ec), oI 1] [(.int 1)])) (fun t k => XS.iconst X129.here hx rfl (hb hby at_247) k) ?_
    refine own_st (fr' := (mkF m 252 #[oI p0, oI p1, oI p2, oI 0, oI z121_0, oI 0, oI 2, .val (.ref ar), oI fi, oI se, .val (.ref d), .val (.ref co), .val (.ref ec), oI 1] [(.int 1)])) (fun t k => XS.goto X129.here hx rfl (pc0 := 248) (pc' := 252) rfl (hb hby at_248) (by decide) (by decide) k) ?_
    refine own_st (fr' := (mkF m 254 #[oI p0, oI p1, oI p2, oI 0, oI z121_0, oI 0, oI 2, .val (.ref ar), oI fi, oI se, .val (.ref d), .val (.ref co), .val (.ref ec), oI 1] [])) (fun t k => XS.istore X129.here hx rfl (hb hby at_252) rfl  (l' := #[oI p0, oI p1, oI p2, oI 0, oI z121_0, oI 0, oI 2, .val (.ref ar), oI fi, oI se, .val (.ref d), .val (.ref co), .val (.ref ec), oI 1]) rfl k) ?_
    refine own_st (fr' := (mkF m 256 #[oI p0, oI p1, oI p2, oI 0, oI z121_0, oI 0, oI 2, .val (.ref ar), oI fi, oI se, .val (.ref d), .val (.ref co), .val (.ref ec), oI 1] [(.int 1)])) (fun t k => XS.iload X129.here hx rfl (hb hby at_254) rfl  k) ?_
    refine own_st (fr' := (mkF m 259 #[oI p0, oI p1, oI p2, oI 0, oI z121_0, oI 0, oI 2, .val (.ref ar), oI fi, oI se, .val (.ref d), .val (.ref co), .val (.ref ec), oI 1] [])) (fun t k => XS.ifNo X129.here hx rfl (hb hby at_256) rfl ((if0 _ _).trans (own_feq (x := (1 : Int32)) (y := (0 : Int32)) (show ¬ 1 = 0 from by decide)).1) k) ?_
    refine own_st (fr' := (mkF m 261 #[oI p0, oI p1, oI p2, oI 0, oI z121_0, oI 0, oI 2, .val (.ref ar), oI fi, oI se, .val (.ref d), .val (.ref co), .val (.ref ec), oI 1] [(.ref ec)])) (fun t k => XS.aload X129.here hx rfl (hb hby at_259) rfl rfl k) ?_
    refine own_st (fr' := (mkF m 262 #[oI p0, oI p1, oI p2, oI 0, oI z121_0, oI 0, oI 2, .val (.ref ar), oI fi, oI se, .val (.ref d), .val (.ref co), .val (.ref ec), oI 1] [(.int 0), (.ref ec)])) (fun t k => XS.iconst X129.here hx rfl (hb hby at_261) k) ?_
    refine own_baload (j := (0 : Int32)) X129 hx hZ eq129 VE (by decide) (by decide) (v := (.int tb)) (hv0) (hb hby at_262) ?_
    refine own_st (fr' := (mkF m 265 #[oI p0, oI p1, oI p2, oI 0, oI z121_0, oI 0, oI 2, .val (.ref ar), oI fi, oI se, .val (.ref d), .val (.ref co), .val (.ref ec), oI 1] [(.ref ar), (.int tb)])) (fun t k => XS.aload X129.here hx rfl (hb hby at_263) rfl rfl k) ?_
    refine own_st (fr' := (mkF m 266 #[oI p0, oI p1, oI p2, oI 0, oI z121_0, oI 0, oI 2, .val (.ref ar), oI fi, oI se, .val (.ref d), .val (.ref co), .val (.ref ec), oI 1] [(.int 0), (.ref ar), (.int tb)])) (fun t k => XS.iconst X129.here hx rfl (hb hby at_265) k) ?_
    refine own_baload (j := (0 : Int32)) X129 hx hZ eq129 (((VF.keep K126 nin0).keep K127 nin0).keep K128 nin0) (by decide) (by decide) (v := (.int tb)) (hv0) (hb hby at_266) ?_
    refine own_st (fr' := (mkF m 270 #[oI p0, oI p1, oI p2, oI 0, oI z121_0, oI 0, oI 2, .val (.ref ar), oI fi, oI se, .val (.ref d), .val (.ref co), .val (.ref ec), oI 1] [])) (fun t k => XS.icmpNo X129.here hx rfl (hb hby at_267) rfl (own_teq (x := tb) (y := tb) (show tb.toInt = tb.toInt from rfl)).2 k) ?_
    refine own_st (fr' := (mkF m 272 #[oI p0, oI p1, oI p2, oI 0, oI z121_0, oI 0, oI 2, .val (.ref ar), oI fi, oI se, .val (.ref d), .val (.ref co), .val (.ref ec), oI 1] [(.ref ec)])) (fun t k => XS.aload X129.here hx rfl (hb hby at_270) rfl rfl k) ?_
    refine own_st (fr' := (mkF m 273 #[oI p0, oI p1, oI p2, oI 0, oI z121_0, oI 0, oI 2, .val (.ref ar), oI fi, oI se, .val (.ref d), .val (.ref co), .val (.ref ec), oI 1] [(.int 1), (.ref ec)])) (fun t k => XS.iconst X129.here hx rfl (hb hby at_272) k) ?_
    refine own_baload (j := (1 : Int32)) X129 hx hZ eq129 VE (by decide) (by decide) (v := (.int 0)) (hv1) (hb hby at_273) ?_
    refine own_st (fr' := (mkF m 276 #[oI p0, oI p1, oI p2, oI 0, oI z121_0, oI 0, oI 2, .val (.ref ar), oI fi, oI se, .val (.ref d), .val (.ref co), .val (.ref ec), oI 1] [(.ref ar), (.int 0)])) (fun t k => XS.aload X129.here hx rfl (hb hby at_274) rfl rfl k) ?_
    refine own_st (fr' := (mkF m 277 #[oI p0, oI p1, oI p2, oI 0, oI z121_0, oI 0, oI 2, .val (.ref ar), oI fi, oI se, .val (.ref d), .val (.ref co), .val (.ref ec), oI 1] [(.int 1), (.ref ar), (.int 0)])) (fun t k => XS.iconst X129.here hx rfl (hb hby at_276) k) ?_
    refine own_baload (j := (1 : Int32)) X129 hx hZ eq129 (((VF.keep K126 nin0).keep K127 nin0).keep K128 nin0) (by decide) (by decide) (v := (.int 0)) (hv1) (hb hby at_277) ?_
    refine own_st (fr' := (mkF m 281 #[oI p0, oI p1, oI p2, oI 0, oI z121_0, oI 0, oI 2, .val (.ref ar), oI fi, oI se, .val (.ref d), .val (.ref co), .val (.ref ec), oI 1] [])) (fun t k => XS.icmpNo X129.here hx rfl (hb hby at_278) rfl (own_teq (x := (0 : Int32)) (y := (0 : Int32)) (show 0 = 0 from by decide)).2 k) ?_
    refine own_st (fr' := (mkF m 283 #[oI p0, oI p1, oI p2, oI 0, oI z121_0, oI 0, oI 2, .val (.ref ar), oI fi, oI se, .val (.ref d), .val (.ref co), .val (.ref ec), oI 1] [(.ref ec)])) (fun t k => XS.aload X129.here hx rfl (hb hby at_281) rfl rfl k) ?_
    refine own_st (fr' := (mkF m 285 #[oI p0, oI p1, oI p2, oI 0, oI z121_0, oI 0, oI 2, .val (.ref ar), oI fi, oI se, .val (.ref d), .val (.ref co), .val (.ref ec), oI 1] [(.int 2), (.ref ec)])) (fun t k => XS.iload X129.here hx rfl (hb hby at_283) rfl  k) ?_
    refine own_st (fr' := (mkF m 286 #[oI p0, oI p1, oI p2, oI 0, oI z121_0, oI 0, oI 2, .val (.ref ar), oI fi, oI se, .val (.ref d), .val (.ref co), .val (.ref ec), oI 1] [(.int 1), (.int 2), (.ref ec)])) (fun t k => XS.iconst X129.here hx rfl (hb hby at_285) k) ?_
    refine own_st (fr' := (mkF m 287 #[oI p0, oI p1, oI p2, oI 0, oI z121_0, oI 0, oI 2, .val (.ref ar), oI fi, oI se, .val (.ref d), .val (.ref co), .val (.ref ec), oI 1] [(.int 1), (.ref ec)])) (fun t k => XS.isub X129.here hx rfl (hb hby at_286) rfl k) ?_
    refine own_baload (j := (1 : Int32)) X129 hx hZ eq129 VE (by decide) (by decide) (v := (.int 0)) (hv1) (hb hby at_287) ?_
    refine own_st (fr' := (mkF m 290 #[oI p0, oI p1, oI p2, oI 0, oI z121_0, oI 0, oI 2, .val (.ref ar), oI fi, oI se, .val (.ref d), .val (.ref co), .val (.ref ec), oI 1] [(.ref ar), (.int 0)])) (fun t k => XS.aload X129.here hx rfl (hb hby at_288) rfl rfl k) ?_
    refine own_st (fr' := (mkF m 292 #[oI p0, oI p1, oI p2, oI 0, oI z121_0, oI 0, oI 2, .val (.ref ar), oI fi, oI se, .val (.ref d), .val (.ref co), .val (.ref ec), oI 1] [(.int 2), (.ref ar), (.int 0)])) (fun t k => XS.iload X129.here hx rfl (hb hby at_290) rfl  k) ?_
    refine own_st (fr' := (mkF m 293 #[oI p0, oI p1, oI p2, oI 0, oI z121_0, oI 0, oI 2, .val (.ref ar), oI fi, oI se, .val (.ref d), .val (.ref co), .val (.ref ec), oI 1] [(.int 1), (.int 2), (.ref ar), (.int 0)])) (fun t k => XS.iconst X129.here hx rfl (hb hby at_292) k) ?_
    refine own_st (fr' := (mkF m 294 #[oI p0, oI p1, oI p2, oI 0, oI z121_0, oI 0, oI 2, .val (.ref ar), oI fi, oI se, .val (.ref d), .val (.ref co), .val (.ref ec), oI 1] [(.int 1), (.ref ar), (.int 0)])) (fun t k => XS.isub X129.here hx rfl (hb hby at_293) rfl k) ?_
    refine own_baload (j := (1 : Int32)) X129 hx hZ eq129 (((VF.keep K126 nin0).keep K127 nin0).keep K128 nin0) (by decide) (by decide) (v := (.int 0)) (hv1) (hb hby at_294) ?_
    refine own_st (fr' := (mkF m 298 #[oI p0, oI p1, oI p2, oI 0, oI z121_0, oI 0, oI 2, .val (.ref ar), oI fi, oI se, .val (.ref d), .val (.ref co), .val (.ref ec), oI 1] [])) (fun t k => XS.icmpNo X129.here hx rfl (hb hby at_295) rfl (own_teq (x := (0 : Int32)) (y := (0 : Int32)) (show 0 = 0 from by decide)).2 k) ?_
    refine own_st (fr' := (mkF m 299 #[oI p0, oI p1, oI p2, oI 0, oI z121_0, oI 0, oI 2, .val (.ref ar), oI fi, oI se, .val (.ref d), .val (.ref co), .val (.ref ec), oI 1] [(.int 1)])) (fun t k => XS.iconst X129.here hx rfl (hb hby at_298) k) ?_
    refine own_st (fr' := (mkF m 303 #[oI p0, oI p1, oI p2, oI 0, oI z121_0, oI 0, oI 2, .val (.ref ar), oI fi, oI se, .val (.ref d), .val (.ref co), .val (.ref ec), oI 1] [(.int 1)])) (fun t k => XS.goto X129.here hx rfl (pc0 := 299) (pc' := 303) rfl (hb hby at_299) (by decide) (by decide) k) ?_
    refine own_st (fr' := (mkF m 305 #[oI p0, oI p1, oI p2, oI 0, oI z121_0, oI 0, oI 2, .val (.ref ar), oI fi, oI se, .val (.ref d), .val (.ref co), .val (.ref ec), oI 1] [])) (fun t k => XS.istore X129.here hx rfl (hb hby at_303) rfl  (l' := #[oI p0, oI p1, oI p2, oI 0, oI z121_0, oI 0, oI 2, .val (.ref ar), oI fi, oI se, .val (.ref d), .val (.ref co), .val (.ref ec), oI 1]) rfl k) ?_
    refine own_st (fr' := (mkF m 307 #[oI p0, oI p1, oI p2, oI 0, oI z121_0, oI 0, oI 2, .val (.ref ar), oI fi, oI se, .val (.ref d), .val (.ref co), .val (.ref ec), oI 1] [(.int 1)])) (fun t k => XS.iload X129.here hx rfl (hb hby at_305) rfl  k) ?_
    refine own_st (fr' := (mkF m 310 #[oI p0, oI p1, oI p2, oI 0, oI z121_0, oI 0, oI 2, .val (.ref ar), oI fi, oI se, .val (.ref d), .val (.ref co), .val (.ref ec), oI 1] [])) (fun t k => XS.ifNo X129.here hx rfl (hb hby at_307) rfl ((if0 _ _).trans (own_feq (x := (1 : Int32)) (y := (0 : Int32)) (show ¬ 1 = 0 from by decide)).1) k) ?_
    refine own_st (fr' := (mkF m 312 #[oI p0, oI p1, oI p2, oI 0, oI z121_0, oI 0, oI 2, .val (.ref ar), oI fi, oI se, .val (.ref d), .val (.ref co), .val (.ref ec), oI 1] [(.int 0)])) (fun t k => XS.iload X129.here hx rfl (hb hby at_310) rfl  k) ?_
    refine own_st (fr' := (mkF m 313 #[oI p0, oI p1, oI p2, oI 0, oI z121_0, oI 0, oI 2, .val (.ref ar), oI fi, oI se, .val (.ref d), .val (.ref co), .val (.ref ec), oI 1] [(.int 1), (.int 0)])) (fun t k => XS.iconst X129.here hx rfl (hb hby at_312) k) ?_
    refine own_st (fr' := (mkF m 342 #[oI p0, oI p1, oI p2, oI 0, oI z121_0, oI 0, oI 2, .val (.ref ar), oI fi, oI se, .val (.ref d), .val (.ref co), .val (.ref ec), oI 1] [])) (fun t k => XS.icmpYes X129.here hx rfl (pc0 := 313) (pc' := 342) rfl (hb hby at_313) rfl (own_tlt (x := (0 : Int32)) (y := (1 : Int32)) (show 0 < 1 from by decide)).1 (by decide) (by decide) k) ?_
    refine own_st (fr' := (mkF m 344 #[oI p0, oI p1, oI p2, oI 0, oI z121_0, oI 0, oI 2, .val (.ref ar), oI fi, oI se, .val (.ref d), .val (.ref co), .val (.ref ec), oI 1] [(.int 1)])) (fun t k => XS.iload X129.here hx rfl (hb hby at_342) rfl  k) ?_
    refine own_st (fr' := (mkF m 347 #[oI p0, oI p1, oI p2, oI 0, oI z121_0, oI 0, oI 2, .val (.ref ar), oI fi, oI se, .val (.ref d), .val (.ref co), .val (.ref ec), oI 1] [])) (fun t k => XS.ifNo X129.here hx rfl (hb hby at_344) rfl ((if0 _ _).trans (own_feq (x := (1 : Int32)) (y := (0 : Int32)) (show ¬ 1 = 0 from by decide)).1) k) ?_
    refine own_st (fr' := (mkF m 349 #[oI p0, oI p1, oI p2, oI 0, oI z121_0, oI 0, oI 2, .val (.ref ar), oI fi, oI se, .val (.ref d), .val (.ref co), .val (.ref ec), oI 1] [(.int 0)])) (fun t k => XS.iload X129.here hx rfl (hb hby at_347) rfl  k) ?_
    refine own_st (fr' := (mkF m 350 #[oI p0, oI p1, oI p2, oI 0, oI z121_0, oI 0, oI 2, .val (.ref ar), oI fi, oI se, .val (.ref d), .val (.ref co), .val (.ref ec), oI 1] [(.int 2), (.int 0)])) (fun t k => XS.iconst X129.here hx rfl (hb hby at_349) k) ?_
    refine own_st (fr' := (mkF m 385 #[oI p0, oI p1, oI p2, oI 0, oI z121_0, oI 0, oI 2, .val (.ref ar), oI fi, oI se, .val (.ref d), .val (.ref co), .val (.ref ec), oI 1] [])) (fun t k => XS.icmpYes X129.here hx rfl (pc0 := 350) (pc' := 385) rfl (hb hby at_350) rfl (own_tlt (x := (0 : Int32)) (y := (2 : Int32)) (show 0 < 2 from by decide)).1 (by decide) (by decide) k) ?_
    refine own_st (fr' := (mkF m 387 #[oI p0, oI p1, oI p2, oI 0, oI z121_0, oI 0, oI 2, .val (.ref ar), oI fi, oI se, .val (.ref d), .val (.ref co), .val (.ref ec), oI 1] [(.int 1)])) (fun t k => XS.iload X129.here hx rfl (hb hby at_385) rfl  k) ?_
    refine own_st (fr' := (mkF m 390 #[oI p0, oI p1, oI p2, oI 0, oI z121_0, oI 0, oI 2, .val (.ref ar), oI fi, oI se, .val (.ref d), .val (.ref co), .val (.ref ec), oI 1] [])) (fun t k => XS.ifNo X129.here hx rfl (hb hby at_387) rfl ((if0 _ _).trans (own_feq (x := (1 : Int32)) (y := (0 : Int32)) (show ¬ 1 = 0 from by decide)).1) k) ?_
    refine own_st (fr' := (mkF m 392 #[oI p0, oI p1, oI p2, oI 0, oI z121_0, oI 0, oI 2, .val (.ref ar), oI fi, oI se, .val (.ref d), .val (.ref co), .val (.ref ec), oI 1] [(.int 0)])) (fun t k => XS.iload X129.here hx rfl (hb hby at_390) rfl  k) ?_
    refine own_st (fr' := (mkF m 393 #[oI p0, oI p1, oI p2, oI 0, oI z121_0, oI 0, oI 2, .val (.ref ar), oI fi, oI se, .val (.ref d), .val (.ref co), .val (.ref ec), oI 1] [(.int 3), (.int 0)])) (fun t k => XS.iconst X129.here hx rfl (hb hby at_392) k) ?_
    refine own_st (fr' := (mkF m 420 #[oI p0, oI p1, oI p2, oI 0, oI z121_0, oI 0, oI 2, .val (.ref ar), oI fi, oI se, .val (.ref d), .val (.ref co), .val (.ref ec), oI 1] [])) (fun t k => XS.icmpYes X129.here hx rfl (pc0 := 393) (pc' := 420) rfl (hb hby at_393) rfl (own_tlt (x := (0 : Int32)) (y := (3 : Int32)) (show 0 < 3 from by decide)).1 (by decide) (by decide) k) ?_
    refine own_st (fr' := (mkF m 422 #[oI p0, oI p1, oI p2, oI 0, oI z121_0, oI 0, oI 2, .val (.ref ar), oI fi, oI se, .val (.ref d), .val (.ref co), .val (.ref ec), oI 1] [(.int 1)])) (fun t k => XS.iload X129.here hx rfl (hb hby at_420) rfl  k) ?_
    exact own_retZ X129 hx hlk hret (Or.inr rfl) (hb hby at_422) (by decide) (by decide) (⟨rfl, N129⟩)
  · obtain rfl : fo = (1 : Int32) := Int32.toInt_inj.mp hfo
    refine own_st (fr' := (mkF m 29 #[oI p0, oI p1, oI p2, oI 1, oI z121_0, .unset, .unset, .unset, .unset, .unset, .unset, .unset, .unset, .unset] [(.int 1)])) (fun t k => XS.iloadN X0.here hx rfl (hb hby at_28) rfl  k) ?_
    refine own_callS X0 hx hZ (y := (⟨"com/example/linkvouch/linkvouch/apk/DerParsePinLaw", "lengthOf", "(I)I"⟩ : MethodName)) hown (hw _ (List.mem_of_getElem? (i := 0) rfl)) (hw _ (List.mem_of_getElem? (i := 1) rfl)) (hw _ (List.mem_of_getElem? (i := 2) rfl)) (hw _ (List.mem_of_getElem? (i := 3) rfl)) (by decide) (argsL := [(.int 1)]) (rest := []) (W := 0) (rm_len1 l Z a0 hw []  h0 n0 Z0 ) e0 (by rw [hml]; rfl) (lenOf pd_5 rfl) rfl (Nat.le_of_eq rfl) (hb hby at_29) (by decide) (by decide) (by decide) (by decide) ?_
    intro v130 T130 L130 X130 hQ130
    obtain ⟨rfl, Nq130, eq130⟩ := hQ130
    have N130 := Fr.app N0 Nq130
    refine own_st (fr' := (mkF m 34 #[oI p0, oI p1, oI p2, oI 1, oI z121_0, oI 1, .unset, .unset, .unset, .unset, .unset, .unset, .unset, .unset] [])) (fun t k => XS.istore X130.here hx rfl (hb hby at_32) rfl  (l' := #[oI p0, oI p1, oI p2, oI 1, oI z121_0, oI 1, .unset, .unset, .unset, .unset, .unset, .unset, .unset, .unset]) rfl k) ?_
    refine own_st (fr' := (mkF m 35 #[oI p0, oI p1, oI p2, oI 1, oI z121_0, oI 1, .unset, .unset, .unset, .unset, .unset, .unset, .unset, .unset] [(.int 1)])) (fun t k => XS.iloadN X130.here hx rfl (hb hby at_34) rfl  k) ?_
    refine own_st (fr' := (mkF m 36 #[oI p0, oI p1, oI p2, oI 1, oI z121_0, oI 1, .unset, .unset, .unset, .unset, .unset, .unset, .unset, .unset] [(.int 4), (.int 1)])) (fun t k => XS.iconst X130.here hx rfl (hb hby at_35) k) ?_
    refine own_st (fr' := (mkF m 39 #[oI p0, oI p1, oI p2, oI 1, oI z121_0, oI 1, .unset, .unset, .unset, .unset, .unset, .unset, .unset, .unset] [])) (fun t k => XS.icmpNo X130.here hx rfl (hb hby at_36) rfl (own_tlt (x := (1 : Int32)) (y := (4 : Int32)) (show 1 < 4 from by decide)).2.1 k) ?_
    refine own_st (fr' := (mkF m 40 #[oI p0, oI p1, oI p2, oI 1, oI z121_0, oI 1, .unset, .unset, .unset, .unset, .unset, .unset, .unset, .unset] [(.int 2)])) (fun t k => XS.iconst X130.here hx rfl (hb hby at_39) k) ?_
    refine own_st (fr' := (mkF m 42 #[oI p0, oI p1, oI p2, oI 1, oI z121_0, oI 1, oI 2, .unset, .unset, .unset, .unset, .unset, .unset, .unset] [])) (fun t k => XS.istore X130.here hx rfl (hb hby at_40) rfl  (l' := #[oI p0, oI p1, oI p2, oI 1, oI z121_0, oI 1, oI 2, .unset, .unset, .unset, .unset, .unset, .unset, .unset]) rfl k) ?_
    refine own_st (fr' := (mkF m 60 #[oI p0, oI p1, oI p2, oI 1, oI z121_0, oI 1, oI 2, .unset, .unset, .unset, .unset, .unset, .unset, .unset] [])) (fun t k => XS.goto X130.here hx rfl (pc0 := 42) (pc' := 60) rfl (hb hby at_42) (by decide) (by decide) k) ?_
    refine own_st (fr' := (mkF m 61 #[oI p0, oI p1, oI p2, oI 1, oI z121_0, oI 1, oI 2, .unset, .unset, .unset, .unset, .unset, .unset, .unset] [(.int 1)])) (fun t k => XS.iloadN X130.here hx rfl (hb hby at_60) rfl  k) ?_
    refine own_callS X130 hx hZ (y := (⟨"com/example/linkvouch/linkvouch/apk/DerParsePinLaw", "alloc", "(I)[B"⟩ : MethodName)) hown (hw _ (List.mem_of_getElem? (i := 4) rfl)) (hw _ (List.mem_of_getElem? (i := 5) rfl)) (hw _ (List.mem_of_getElem? (i := 2) rfl)) (hw _ (List.mem_of_getElem? (i := 6) rfl)) (by decide) (argsL := [(.int 1)]) (rest := []) (W := 0) (rm_alloc1 l Z a0 hw []  h0 n0 Z0 ) eq130 (by rw [hml]; rfl) (lenOf pd_6 rfl) rfl (Nat.le_of_eq rfl) (hb hby at_61) (by decide) (by decide) (by decide) (by decide) ?_
    intro v131 T131 L131 X131 hQ131
    obtain ⟨⟨ar, rfl, har, ge_ar, VA, EA⟩, Nq131, K131⟩ := hQ131
    have N131 := Fr.app N130 Nq131
    refine own_st (fr' := (mkF m 66 #[oI p0, oI p1, oI p2, oI 1, oI z121_0, oI 1, oI 2, .val (.ref ar), .unset, .unset, .unset, .unset, .unset, .unset] [])) (fun t k => XS.astore X131.here hx rfl (hb hby at_64) rfl rfl (l' := #[oI p0, oI p1, oI p2, oI 1, oI z121_0, oI 1, oI 2, .val (.ref ar), .unset, .unset, .unset, .unset, .unset, .unset]) rfl k) ?_
    refine own_st (fr' := (mkF m 68 #[oI p0, oI p1, oI p2, oI 1, oI z121_0, oI 1, oI 2, .val (.ref ar), .unset, .unset, .unset, .unset, .unset, .unset] [(.ref ar)])) (fun t k => XS.aload X131.here hx rfl (hb hby at_66) rfl rfl k) ?_
    refine own_st (fr' := (mkF m 69 #[oI p0, oI p1, oI p2, oI 1, oI z121_0, oI 1, oI 2, .val (.ref ar), .unset, .unset, .unset, .unset, .unset, .unset] [(.int 0), (.ref ar)])) (fun t k => XS.iconst X131.here hx rfl (hb hby at_68) k) ?_
    refine own_st (fr' := (mkF m 71 #[oI p0, oI p1, oI p2, oI 1, oI z121_0, oI 1, oI 2, .val (.ref ar), .unset, .unset, .unset, .unset, .unset, .unset] [(.int z121_0), (.int 0), (.ref ar)])) (fun t k => XS.iload X131.here hx rfl (hb hby at_69) rfl  k) ?_
    refine own_st (fr' := (mkF m 72 #[oI p0, oI p1, oI p2, oI 1, oI z121_0, oI 1, oI 2, .val (.ref ar), .unset, .unset, .unset, .unset, .unset, .unset] [(.int (z121_0.toInt8.toInt32)), (.int 0), (.ref ar)])) (fun t k => XS.i2b X131.here hx rfl (hb hby at_71) rfl k) ?_
    have qb := c_i2b z121_0
    generalize hTB : (z121_0.toInt8.toInt32) = tb at qb ⊢
    have hnb : nar .byte tb = tb := own_narb qb.2.1 (by omega)
    refine own_bastore X131 hx hZ rfl VA (by decide) (by decide) (hb hby at_72) ?_
    intro T132 h132 X132 e132 W132 V132
    have N132 := Fr.snoc X132 N131 ge_ar
    refine own_st (fr' := (mkF m 74 #[oI p0, oI p1, oI p2, oI 1, oI z121_0, oI 1, oI 2, .val (.ref ar), .unset, .unset, .unset, .unset, .unset, .unset] [(.int 1)])) (fun t k => XS.iloadN X132.here hx rfl (hb hby at_73) rfl  k) ?_
    refine own_st (fr' := (mkF m 75 #[oI p0, oI p1, oI p2, oI 1, oI z121_0, oI 1, oI 2, .val (.ref ar), .unset, .unset, .unset, .unset, .unset, .unset] [(.int 4), (.int 1)])) (fun t k => XS.iconst X132.here hx rfl (hb hby at_74) k) ?_
    refine own_st (fr' := (mkF m 78 #[oI p0, oI p1, oI p2, oI 1, oI z121_0, oI 1, oI 2, .val (.ref ar), .unset, .unset, .unset, .unset, .unset, .unset] [])) (fun t k => XS.icmpNo X132.here hx rfl (hb hby at_75) rfl (own_tlt (x := (1 : Int32)) (y := (4 : Int32)) (show 1 < 4 from by decide)).2.1 k) ?_
    refine own_st (fr' := (mkF m 80 #[oI p0, oI p1, oI p2, oI 1, oI z121_0, oI 1, oI 2, .val (.ref ar), .unset, .unset, .unset, .unset, .unset, .unset] [(.ref ar)])) (fun t k => XS.aload X132.here hx rfl (hb hby at_78) rfl rfl k) ?_
    refine own_st (fr' := (mkF m 81 #[oI p0, oI p1, oI p2, oI 1, oI z121_0, oI 1, oI 2, .val (.ref ar), .unset, .unset, .unset, .unset, .unset, .unset] [(.int 1), (.ref ar)])) (fun t k => XS.iconst X132.here hx rfl (hb hby at_80) k) ?_
    refine own_st (fr' := (mkF m 83 #[oI p0, oI p1, oI p2, oI 1, oI z121_0, oI 1, oI 2, .val (.ref ar), .unset, .unset, .unset, .unset, .unset, .unset] [(.int 1), (.int 1), (.ref ar)])) (fun t k => XS.iload X132.here hx rfl (hb hby at_81) rfl  k) ?_
    refine own_st (fr' := (mkF m 84 #[oI p0, oI p1, oI p2, oI 1, oI z121_0, oI 1, oI 2, .val (.ref ar), .unset, .unset, .unset, .unset, .unset, .unset] [(.int 1), (.int 1), (.ref ar)])) (fun t k => XS.i2b X132.here hx rfl (hb hby at_83) rfl k) ?_
    refine own_bastore X132 hx hZ e132 V132 (by decide) (by decide) (hb hby at_84) ?_
    intro T133 h133 X133 e133 W133 V133
    have N133 := Fr.snoc X133 N132 ge_ar
    refine own_st (fr' := (mkF m 133 #[oI p0, oI p1, oI p2, oI 1, oI z121_0, oI 1, oI 2, .val (.ref ar), .unset, .unset, .unset, .unset, .unset, .unset] [])) (fun t k => XS.goto X133.here hx rfl (pc0 := 85) (pc' := 133) rfl (hb hby at_85) (by decide) (by decide) k) ?_
    refine own_st (fr' := (mkF m 134 #[oI p0, oI p1, oI p2, oI 1, oI z121_0, oI 1, oI 2, .val (.ref ar), .unset, .unset, .unset, .unset, .unset, .unset] [(.int p2)])) (fun t k => XS.iloadN X133.here hx rfl (hb hby at_133) rfl  k) ?_
    refine own_st (fr' := (mkF m 135 #[oI p0, oI p1, oI p2, oI 1, oI z121_0, oI 1, oI 2, .val (.ref ar), .unset, .unset, .unset, .unset, .unset, .unset] [(.int (p2.toInt8.toInt32))])) (fun t k => XS.i2b X133.here hx rfl (hb hby at_134) rfl k) ?_
    refine own_st (fr' := (mkF m 137 #[oI p0, oI p1, oI p2, oI 1, oI z121_0, oI 1, oI 2, .val (.ref ar), .val (.int (p2.toInt8.toInt32)), .unset, .unset, .unset, .unset, .unset] [])) (fun t k => XS.istore X133.here hx rfl (hb hby at_135) rfl  (l' := #[oI p0, oI p1, oI p2, oI 1, oI z121_0, oI 1, oI 2, .val (.ref ar), .val (.int (p2.toInt8.toInt32)), .unset, .unset, .unset, .unset, .unset]) rfl k) ?_
    have q1 := c_i2b p2
    generalize hFI : p2.toInt8.toInt32 = fi at q1 ⊢
    have hnf : nar .byte fi = fi := own_narb q1.2.1 (by omega)
    refine own_st (fr' := (mkF m 138 #[oI p0, oI p1, oI p2, oI 1, oI z121_0, oI 1, oI 2, .val (.ref ar), oI fi, .unset, .unset, .unset, .unset, .unset] [(.int p2)])) (fun t k => XS.iloadN X133.here hx rfl (hb hby at_137) rfl  k) ?_
    refine own_st (fr' := (mkF m 140 #[oI p0, oI p1, oI p2, oI 1, oI z121_0, oI 1, oI 2, .val (.ref ar), oI fi, .unset, .unset, .unset, .unset, .unset] [(.int 8), (.int p2)])) (fun t k => XS.bipush X133.here hx rfl (hb hby at_138) k) ?_
    refine own_st (fr' := (mkF m 141 #[oI p0, oI p1, oI p2, oI 1, oI z121_0, oI 1, oI 2, .val (.ref ar), oI fi, .unset, .unset, .unset, .unset, .unset] [(.int (p2 >>> ((8 : Int32) &&& 31)))])) (fun t k => XS.ishr X133.here hx rfl (hb hby at_140) rfl k) ?_
    refine own_st (fr' := (mkF m 142 #[oI p0, oI p1, oI p2, oI 1, oI z121_0, oI 1, oI 2, .val (.ref ar), oI fi, .unset, .unset, .unset, .unset, .unset] [(.int ((p2 >>> ((8 : Int32) &&& 31)).toInt8.toInt32))])) (fun t k => XS.i2b X133.here hx rfl (hb hby at_141) rfl k) ?_
    refine own_st (fr' := (mkF m 144 #[oI p0, oI p1, oI p2, oI 1, oI z121_0, oI 1, oI 2, .val (.ref ar), oI fi, .val (.int ((p2 >>> ((8 : Int32) &&& 31)).toInt8.toInt32)), .unset, .unset, .unset, .unset] [])) (fun t k => XS.istore X133.here hx rfl (hb hby at_142) rfl  (l' := #[oI p0, oI p1, oI p2, oI 1, oI z121_0, oI 1, oI 2, .val (.ref ar), oI fi, .val (.int ((p2 >>> ((8 : Int32) &&& 31)).toInt8.toInt32)), .unset, .unset, .unset, .unset]) rfl k) ?_
    have q2 := c_i2b (p2 >>> ((8 : Int32) &&& 31))
    generalize hSE : (p2 >>> ((8 : Int32) &&& 31)).toInt8.toInt32 = se at q2 ⊢
    have hns : nar .byte se = se := own_narb q2.2.1 (by omega)
    refine own_st (fr' := (mkF m 146 #[oI p0, oI p1, oI p2, oI 1, oI z121_0, oI 1, oI 2, .val (.ref ar), oI fi, oI se, .unset, .unset, .unset, .unset] [(.int 1)])) (fun t k => XS.iload X133.here hx rfl (hb hby at_144) rfl  k) ?_
    refine own_st (fr' := (mkF m 147 #[oI p0, oI p1, oI p2, oI 1, oI z121_0, oI 1, oI 2, .val (.ref ar), oI fi, oI se, .unset, .unset, .unset, .unset] [(.int 1), (.int 1)])) (fun t k => XS.iconst X133.here hx rfl (hb hby at_146) k) ?_
    refine own_st (fr' := (mkF m 150 #[oI p0, oI p1, oI p2, oI 1, oI z121_0, oI 1, oI 2, .val (.ref ar), oI fi, oI se, .unset, .unset, .unset, .unset] [])) (fun t k => XS.icmpNo X133.here hx rfl (hb hby at_147) rfl (own_flt (x := (1 : Int32)) (y := (1 : Int32)) (show ¬ 1 < 1 from by decide)).1 k) ?_
    refine own_st (fr' := (mkF m 152 #[oI p0, oI p1, oI p2, oI 1, oI z121_0, oI 1, oI 2, .val (.ref ar), oI fi, oI se, .unset, .unset, .unset, .unset] [(.ref ar)])) (fun t k => XS.aload X133.here hx rfl (hb hby at_150) rfl rfl k) ?_
    refine own_st (fr' := (mkF m 154 #[oI p0, oI p1, oI p2, oI 1, oI z121_0, oI 1, oI 2, .val (.ref ar), oI fi, oI se, .unset, .unset, .unset, .unset] [(.int 2), (.ref ar)])) (fun t k => XS.iload X133.here hx rfl (hb hby at_152) rfl  k) ?_
    refine own_st (fr' := (mkF m 156 #[oI p0, oI p1, oI p2, oI 1, oI z121_0, oI 1, oI 2, .val (.ref ar), oI fi, oI se, .unset, .unset, .unset, .unset] [(.int fi), (.int 2), (.ref ar)])) (fun t k => XS.iload X133.here hx rfl (hb hby at_154) rfl  k) ?_
    refine own_bastore X133 hx hZ e133 V133 (by decide) (by decide) (hb hby at_156) ?_
    intro T134 h134 X134 e134 W134 V134
    have N134 := Fr.snoc X134 N133 ge_ar
    refine own_st (fr' := (mkF m 159 #[oI p0, oI p1, oI p2, oI 1, oI z121_0, oI 1, oI 2, .val (.ref ar), oI fi, oI se, .unset, .unset, .unset, .unset] [(.int 1)])) (fun t k => XS.iload X134.here hx rfl (hb hby at_157) rfl  k) ?_
    refine own_st (fr' := (mkF m 160 #[oI p0, oI p1, oI p2, oI 1, oI z121_0, oI 1, oI 2, .val (.ref ar), oI fi, oI se, .unset, .unset, .unset, .unset] [(.int 2), (.int 1)])) (fun t k => XS.iconst X134.here hx rfl (hb hby at_159) k) ?_
    refine own_st (fr' := (mkF m 175 #[oI p0, oI p1, oI p2, oI 1, oI z121_0, oI 1, oI 2, .val (.ref ar), oI fi, oI se, .unset, .unset, .unset, .unset] [])) (fun t k => XS.icmpYes X134.here hx rfl (pc0 := 160) (pc' := 175) rfl (hb hby at_160) rfl (own_tlt (x := (1 : Int32)) (y := (2 : Int32)) (show 1 < 2 from by decide)).1 (by decide) (by decide) k) ?_
    obtain ⟨ff, VF, hv⟩ : ∃ ff : Nat → Value, own_A Z h134 ar .byte 3 ff ∧ (ff 0 = .int tb ∧ ff 1 = .int (1 : Int32) ∧ ff 2 = .int fi) := ⟨_, V134, by show Value.int (nar .byte tb) = _; rw [hnb], rfl, by show Value.int (nar .byte fi) = _; rw [hnf]⟩
    obtain ⟨hv0, hv1, hv2⟩ := hv
    have hbk : tb &&& 255 = z121_0 := own_back z121_0 tb hz121.1 hz121.2.1 (by omega)
    refine own_st (fr' := (mkF m 177 #[oI p0, oI p1, oI p2, oI 1, oI z121_0, oI 1, oI 2, .val (.ref ar), oI fi, oI se, .unset, .unset, .unset, .unset] [(.ref ar)])) (fun t k => XS.aload X134.here hx rfl (hb hby at_175) rfl rfl k) ?_
    refine own_callS X134 hx hZ (y := (⟨"com/example/linkvouch/linkvouch/apk/Der", "parse", "([B)Lcom/example/linkvouch/linkvouch/apk/Der;"⟩ : MethodName)) hown (hw _ (List.mem_of_getElem? (i := 8) rfl)) (hw _ (List.mem_of_getElem? (i := 9) rfl)) (hw _ (List.mem_of_getElem? (i := 10) rfl)) (hw _ (List.mem_of_getElem? (i := 11) rfl)) (by decide) (argsL := [(.ref ar)]) (rest := []) (W := 0) (rm_parse1 l Z a0 hw [] ar tb ff h134 n0 (Nat.le_trans (Nat.le_trans (Nat.le_trans (Nat.le_trans Z0 K131.1) (Nat.le_of_eq (Wr.size W132).symm)) (Nat.le_of_eq (Wr.size W133).symm)) (Nat.le_of_eq (Wr.size W134).symm)) VF hv0 hv1 (by rw [hbk]; exact hz121.2.2)) e134 (by rw [hml]; rfl) (lenOf pd_7 rfl) rfl (Nat.le_of_eq rfl) (hb hby at_177) (by decide) (by decide) (by decide) (by decide) ?_
    intro v135 T135 L135 X135 hQ135
    obtain ⟨⟨d, rfl, hd0, Ed, Fd0, Fd1, Fd2, Fd3, Fd4⟩, Nq135, K135⟩ := hQ135
    rw [hbk] at Fd1
    have N135 := Fr.app N134 Nq135
    refine own_st (fr' := (mkF m 182 #[oI p0, oI p1, oI p2, oI 1, oI z121_0, oI 1, oI 2, .val (.ref ar), oI fi, oI se, .val (.ref d), .unset, .unset, .unset] [])) (fun t k => XS.astore X135.here hx rfl (hb hby at_180) rfl rfl (l' := #[oI p0, oI p1, oI p2, oI 1, oI z121_0, oI 1, oI 2, .val (.ref ar), oI fi, oI se, .val (.ref d), .unset, .unset, .unset]) rfl k) ?_
    refine own_st (fr' := (mkF m 184 #[oI p0, oI p1, oI p2, oI 1, oI z121_0, oI 1, oI 2, .val (.ref ar), oI fi, oI se, .val (.ref d), .unset, .unset, .unset] [(.ref d)])) (fun t k => XS.aload X135.here hx rfl (hb hby at_182) rfl rfl k) ?_
    refine own_callV X135 hx hZ (y := (⟨"com/example/linkvouch/linkvouch/apk/Der", "content", "()[B"⟩ : MethodName)) (z := (⟨"com/example/linkvouch/linkvouch/apk/Der", "content", "()[B"⟩ : MethodName)) hown (hw _ (List.mem_of_getElem? (i := 33) rfl)) (hw _ (List.mem_of_getElem? (i := 34) rfl)) (notFace_of_selects (args := #[]) (mvT hZ (hw _ (List.mem_of_getElem? (i := 36) rfl)))) (hw _ (List.mem_of_getElem? (i := 36) rfl)) (hw _ (List.mem_of_getElem? (i := 35) rfl)) (hw _ (List.mem_of_getElem? (i := 10) rfl)) (hw _ (List.mem_of_getElem? (i := 37) rfl)) (by decide) (a := d) (argsL := []) (rest := []) (W := 0) (rm_cont1 l Z a0 hw [] d ar ff T135.heap n0 (Nat.le_trans (Nat.le_trans (Nat.le_trans (Nat.le_trans (Nat.le_trans Z0 K131.1) (Nat.le_of_eq (Wr.size W132).symm)) (Nat.le_of_eq (Wr.size W133).symm)) (Nat.le_of_eq (Wr.size W134).symm)) K135.1) Fd0 (VF.keep K135 nin0) ((Exa.wr W134 (Exa.wr W133 (Exa.wr W132 EA))).keep K135) Fd4 Fd3) rfl Ed (by rw [hml]; rfl) (lenOf pd_8 rfl) rfl (Nat.le_of_eq rfl) (hb hby at_184) (by decide) (by decide) (by decide) (by decide) ?_
    intro v136 T136 L136 X136 hQ136
    obtain ⟨⟨co, gc, rfl, hco, VC, hgc⟩, Nq136, K136⟩ := hQ136
    have N136 := Fr.app N135 Nq136
    refine own_st (fr' := (mkF m 189 #[oI p0, oI p1, oI p2, oI 1, oI z121_0, oI 1, oI 2, .val (.ref ar), oI fi, oI se, .val (.ref d), .val (.ref co), .unset, .unset] [])) (fun t k => XS.astore X136.here hx rfl (hb hby at_187) rfl rfl (l' := #[oI p0, oI p1, oI p2, oI 1, oI z121_0, oI 1, oI 2, .val (.ref ar), oI fi, oI se, .val (.ref d), .val (.ref co), .unset, .unset]) rfl k) ?_
    refine own_st (fr' := (mkF m 191 #[oI p0, oI p1, oI p2, oI 1, oI z121_0, oI 1, oI 2, .val (.ref ar), oI fi, oI se, .val (.ref d), .val (.ref co), .unset, .unset] [(.ref d)])) (fun t k => XS.aload X136.here hx rfl (hb hby at_189) rfl rfl k) ?_
    refine own_callV X136 hx hZ (y := (⟨"com/example/linkvouch/linkvouch/apk/Der", "encoded", "()[B"⟩ : MethodName)) (z := (⟨"com/example/linkvouch/linkvouch/apk/Der", "encoded", "()[B"⟩ : MethodName)) hown (hw _ (List.mem_of_getElem? (i := 56) rfl)) (hw _ (List.mem_of_getElem? (i := 57) rfl)) (notFace_of_selects (args := #[]) (mvT hZ (hw _ (List.mem_of_getElem? (i := 59) rfl)))) (hw _ (List.mem_of_getElem? (i := 59) rfl)) (hw _ (List.mem_of_getElem? (i := 58) rfl)) (hw _ (List.mem_of_getElem? (i := 10) rfl)) (hw _ (List.mem_of_getElem? (i := 60) rfl)) (by decide) (a := d) (argsL := []) (rest := []) (W := 0) (rm_enc1 l Z a0 hw [] d ar ff T136.heap n0 (Nat.le_trans (Nat.le_trans (Nat.le_trans (Nat.le_trans (Nat.le_trans (Nat.le_trans Z0 K131.1) (Nat.le_of_eq (Wr.size W132).symm)) (Nat.le_of_eq (Wr.size W133).symm)) (Nat.le_of_eq (Wr.size W134).symm)) K135.1) K136.1) (Fd0.keep K136 nin0) ((VF.keep K135 nin0).keep K136 nin0) (((Exa.wr W134 (Exa.wr W133 (Exa.wr W132 EA))).keep K135).keep K136) (Fd4.keep K136 nin0) (Fd2.keep K136 nin0)) rfl (Ed.keep K136) (by rw [hml]; rfl) (lenOf pd_8 rfl) rfl (Nat.le_of_eq rfl) (hb hby at_191) (by decide) (by decide) (by decide) (by decide) ?_
    intro v137 T137 L137 X137 hQ137
    obtain ⟨⟨ec, rfl, hec, VE⟩, Nq137, K137⟩ := hQ137
    have N137 := Fr.app N136 Nq137
    refine own_st (fr' := (mkF m 196 #[oI p0, oI p1, oI p2, oI 1, oI z121_0, oI 1, oI 2, .val (.ref ar), oI fi, oI se, .val (.ref d), .val (.ref co), .val (.ref ec), .unset] [])) (fun t k => XS.astore X137.here hx rfl (hb hby at_194) rfl rfl (l' := #[oI p0, oI p1, oI p2, oI 1, oI z121_0, oI 1, oI 2, .val (.ref ar), oI fi, oI se, .val (.ref d), .val (.ref co), .val (.ref ec), .unset]) rfl k) ?_
    refine own_st (fr' := (mkF m 198 #[oI p0, oI p1, oI p2, oI 1, oI z121_0, oI 1, oI 2, .val (.ref ar), oI fi, oI se, .val (.ref d), .val (.ref co), .val (.ref ec), .unset] [(.ref d)])) (fun t k => XS.aload X137.here hx rfl (hb hby at_196) rfl rfl k) ?_
    refine own_callV X137 hx hZ (y := (⟨"com/example/linkvouch/linkvouch/apk/Der", "tag", "()I"⟩ : MethodName)) (z := (⟨"com/example/linkvouch/linkvouch/apk/Der", "tag", "()I"⟩ : MethodName)) hown (hw _ (List.mem_of_getElem? (i := 70) rfl)) (hw _ (List.mem_of_getElem? (i := 71) rfl)) (notFace_of_selects (args := #[]) (mvT hZ (hw _ (List.mem_of_getElem? (i := 73) rfl)))) (hw _ (List.mem_of_getElem? (i := 73) rfl)) (hw _ (List.mem_of_getElem? (i := 72) rfl)) (hw _ (List.mem_of_getElem? (i := 10) rfl)) (hw _ (List.mem_of_getElem? (i := 74) rfl)) (by decide) (a := d) (argsL := []) (rest := []) (W := 0) (rm_tag l Z a0 hw [] d z121_0 T137.heap n0 (Nat.le_trans (Nat.le_trans (Nat.le_trans (Nat.le_trans (Nat.le_trans (Nat.le_trans (Nat.le_trans Z0 K131.1) (Nat.le_of_eq (Wr.size W132).symm)) (Nat.le_of_eq (Wr.size W133).symm)) (Nat.le_of_eq (Wr.size W134).symm)) K135.1) K136.1) K137.1) ((Fd1.keep K136 nin0).keep K137 nin0)) rfl ((Ed.keep K136).keep K137) (by rw [hml]; rfl) (lenOf pd_9 rfl) rfl (Nat.le_of_eq rfl) (hb hby at_198) (by decide) (by decide) (by decide) (by decide) ?_
    intro v138 T138 L138 X138 hQ138
    obtain ⟨rfl, Nq138, eq138⟩ := hQ138
    have N138 := Fr.app N137 Nq138
    refine own_st (fr' := (mkF m 203 #[oI p0, oI p1, oI p2, oI 1, oI z121_0, oI 1, oI 2, .val (.ref ar), oI fi, oI se, .val (.ref d), .val (.ref co), .val (.ref ec), .unset] [(.int z121_0), (.int z121_0)])) (fun t k => XS.iload X138.here hx rfl (hb hby at_201) rfl  k) ?_
    refine own_st (fr' := (mkF m 206 #[oI p0, oI p1, oI p2, oI 1, oI z121_0, oI 1, oI 2, .val (.ref ar), oI fi, oI se, .val (.ref d), .val (.ref co), .val (.ref ec), .unset] [])) (fun t k => XS.icmpNo X138.here hx rfl (hb hby at_203) rfl (own_teq (x := z121_0) (y := z121_0) (show z121_0.toInt = z121_0.toInt from rfl)).2 k) ?_
    refine own_st (fr' := (mkF m 207 #[oI p0, oI p1, oI p2, oI 1, oI z121_0, oI 1, oI 2, .val (.ref ar), oI fi, oI se, .val (.ref d), .val (.ref co), .val (.ref ec), .unset] [(.int 1)])) (fun t k => XS.iconst X138.here hx rfl (hb hby at_206) k) ?_
    refine own_st (fr' := (mkF m 211 #[oI p0, oI p1, oI p2, oI 1, oI z121_0, oI 1, oI 2, .val (.ref ar), oI fi, oI se, .val (.ref d), .val (.ref co), .val (.ref ec), .unset] [(.int 1)])) (fun t k => XS.goto X138.here hx rfl (pc0 := 207) (pc' := 211) rfl (hb hby at_207) (by decide) (by decide) k) ?_
    refine own_st (fr' := (mkF m 213 #[oI p0, oI p1, oI p2, oI 1, oI z121_0, oI 1, oI 2, .val (.ref ar), oI fi, oI se, .val (.ref d), .val (.ref co), .val (.ref ec), oI 1] [])) (fun t k => XS.istore X138.here hx rfl (hb hby at_211) rfl  (l' := #[oI p0, oI p1, oI p2, oI 1, oI z121_0, oI 1, oI 2, .val (.ref ar), oI fi, oI se, .val (.ref d), .val (.ref co), .val (.ref ec), oI 1]) rfl k) ?_
    refine own_st (fr' := (mkF m 215 #[oI p0, oI p1, oI p2, oI 1, oI z121_0, oI 1, oI 2, .val (.ref ar), oI fi, oI se, .val (.ref d), .val (.ref co), .val (.ref ec), oI 1] [(.int 1)])) (fun t k => XS.iload X138.here hx rfl (hb hby at_213) rfl  k) ?_
    refine own_st (fr' := (mkF m 218 #[oI p0, oI p1, oI p2, oI 1, oI z121_0, oI 1, oI 2, .val (.ref ar), oI fi, oI se, .val (.ref d), .val (.ref co), .val (.ref ec), oI 1] [])) (fun t k => XS.ifNo X138.here hx rfl (hb hby at_215) rfl ((if0 _ _).trans (own_feq (x := (1 : Int32)) (y := (0 : Int32)) (show ¬ 1 = 0 from by decide)).1) k) ?_
    refine own_st (fr' := (mkF m 220 #[oI p0, oI p1, oI p2, oI 1, oI z121_0, oI 1, oI 2, .val (.ref ar), oI fi, oI se, .val (.ref d), .val (.ref co), .val (.ref ec), oI 1] [(.ref co)])) (fun t k => XS.aload X138.here hx rfl (hb hby at_218) rfl rfl k) ?_
    refine own_alen X138 hx hZ eq138 (VC.keep K137 nin0) (hb hby at_220) ?_
    refine own_st (fr' := (mkF m 223 #[oI p0, oI p1, oI p2, oI 1, oI z121_0, oI 1, oI 2, .val (.ref ar), oI fi, oI se, .val (.ref d), .val (.ref co), .val (.ref ec), oI 1] [(.int 1), (.int 1)])) (fun t k => XS.iload X138.here hx rfl (hb hby at_221) rfl  k) ?_
    refine own_st (fr' := (mkF m 226 #[oI p0, oI p1, oI p2, oI 1, oI z121_0, oI 1, oI 2, .val (.ref ar), oI fi, oI se, .val (.ref d), .val (.ref co), .val (.ref ec), oI 1] [])) (fun t k => XS.icmpNo X138.here hx rfl (hb hby at_223) rfl (own_teq (x := (1 : Int32)) (y := (1 : Int32)) (show 1 = 1 from by decide)).2 k) ?_
    refine own_st (fr' := (mkF m 227 #[oI p0, oI p1, oI p2, oI 1, oI z121_0, oI 1, oI 2, .val (.ref ar), oI fi, oI se, .val (.ref d), .val (.ref co), .val (.ref ec), oI 1] [(.int 1)])) (fun t k => XS.iconst X138.here hx rfl (hb hby at_226) k) ?_
    refine own_st (fr' := (mkF m 231 #[oI p0, oI p1, oI p2, oI 1, oI z121_0, oI 1, oI 2, .val (.ref ar), oI fi, oI se, .val (.ref d), .val (.ref co), .val (.ref ec), oI 1] [(.int 1)])) (fun t k => XS.goto X138.here hx rfl (pc0 := 227) (pc' := 231) rfl (hb hby at_227) (by decide) (by decide) k) ?_
    refine own_st (fr' := (mkF m 233 #[oI p0, oI p1, oI p2, oI 1, oI z121_0, oI 1, oI 2, .val (.ref ar), oI fi, oI se, .val (.ref d), .val (.ref co), .val (.ref ec), oI 1] [])) (fun t k => XS.istore X138.here hx rfl (hb hby at_231) rfl  (l' := #[oI p0, oI p1, oI p2, oI 1, oI z121_0, oI 1, oI 2, .val (.ref ar), oI fi, oI se, .val (.ref d), .val (.ref co), .val (.ref ec), oI 1]) rfl k) ?_
    refine own_st (fr' := (mkF m 235 #[oI p0, oI p1, oI p2, oI 1, oI z121_0, oI 1, oI 2, .val (.ref ar), oI fi, oI se, .val (.ref d), .val (.ref co), .val (.ref ec), oI 1] [(.int 1)])) (fun t k => XS.iload X138.here hx rfl (hb hby at_233) rfl  k) ?_
    refine own_st (fr' := (mkF m 238 #[oI p0, oI p1, oI p2, oI 1, oI z121_0, oI 1, oI 2, .val (.ref ar), oI fi, oI se, .val (.ref d), .val (.ref co), .val (.ref ec), oI 1] [])) (fun t k => XS.ifNo X138.here hx rfl (hb hby at_235) rfl ((if0 _ _).trans (own_feq (x := (1 : Int32)) (y := (0 : Int32)) (show ¬ 1 = 0 from by decide)).1) k) ?_
    refine own_st (fr' := (mkF m 240 #[oI p0, oI p1, oI p2, oI 1, oI z121_0, oI 1, oI 2, .val (.ref ar), oI fi, oI se, .val (.ref d), .val (.ref co), .val (.ref ec), oI 1] [(.ref ec)])) (fun t k => XS.aload X138.here hx rfl (hb hby at_238) rfl rfl k) ?_
    refine own_alen X138 hx hZ eq138 VE (hb hby at_240) ?_
    refine own_st (fr' := (mkF m 243 #[oI p0, oI p1, oI p2, oI 1, oI z121_0, oI 1, oI 2, .val (.ref ar), oI fi, oI se, .val (.ref d), .val (.ref co), .val (.ref ec), oI 1] [(.ref ar), (.int 3)])) (fun t k => XS.aload X138.here hx rfl (hb hby at_241) rfl rfl k) ?_
    refine own_alen X138 hx hZ eq138 (((VF.keep K135 nin0).keep K136 nin0).keep K137 nin0) (hb hby at_243) ?_
    refine own_st (fr' := (mkF m 247 #[oI p0, oI p1, oI p2, oI 1, oI z121_0, oI 1, oI 2, .val (.ref ar), oI fi, oI se, .val (.ref d), .val (.ref co), .val (.ref ec), oI 1] [])) (fun t k => XS.icmpNo X138.here hx rfl (hb hby at_244) rfl (own_teq (x := (3 : Int32)) (y := (3 : Int32)) (show 3 = 3 from by decide)).2 k) ?_
    refine own_st (fr' := (mkF m 248 #[oI p0, oI p1, oI p2, oI 1, oI z121_0, oI 1, oI 2, .val (.ref ar), oI fi, oI se, .val (.ref d), .val (.ref co), .val (.ref ec), oI 1] [(.int 1)])) (fun t k => XS.iconst X138.here hx rfl (hb hby at_247) k) ?_
    refine own_st (fr' := (mkF m 252 #[oI p0, oI p1, oI p2, oI 1, oI z121_0, oI 1, oI 2, .val (.ref ar), oI fi, oI se, .val (.ref d), .val (.ref co), .val (.ref ec), oI 1] [(.int 1)])) (fun t k => XS.goto X138.here hx rfl (pc0 := 248) (pc' := 252) rfl (hb hby at_248) (by decide) (by decide) k) ?_
    refine own_st (fr' := (mkF m 254 #[oI p0, oI p1, oI p2, oI 1, oI z121_0, oI 1, oI 2, .val (.ref ar), oI fi, oI se, .val (.ref d), .val (.ref co), .val (.ref ec), oI 1] [])) (fun t k => XS.istore X138.here hx rfl (hb hby at_252) rfl  (l' := #[oI p0, oI p1, oI p2, oI 1, oI z121_0, oI 1, oI 2, .val (.ref ar), oI fi, oI se, .val (.ref d), .val (.ref co), .val (.ref ec), oI 1]) rfl k) ?_
    refine own_st (fr' := (mkF m 256 #[oI p0, oI p1, oI p2, oI 1, oI z121_0, oI 1, oI 2, .val (.ref ar), oI fi, oI se, .val (.ref d), .val (.ref co), .val (.ref ec), oI 1] [(.int 1)])) (fun t k => XS.iload X138.here hx rfl (hb hby at_254) rfl  k) ?_
    refine own_st (fr' := (mkF m 259 #[oI p0, oI p1, oI p2, oI 1, oI z121_0, oI 1, oI 2, .val (.ref ar), oI fi, oI se, .val (.ref d), .val (.ref co), .val (.ref ec), oI 1] [])) (fun t k => XS.ifNo X138.here hx rfl (hb hby at_256) rfl ((if0 _ _).trans (own_feq (x := (1 : Int32)) (y := (0 : Int32)) (show ¬ 1 = 0 from by decide)).1) k) ?_
    refine own_st (fr' := (mkF m 261 #[oI p0, oI p1, oI p2, oI 1, oI z121_0, oI 1, oI 2, .val (.ref ar), oI fi, oI se, .val (.ref d), .val (.ref co), .val (.ref ec), oI 1] [(.ref ec)])) (fun t k => XS.aload X138.here hx rfl (hb hby at_259) rfl rfl k) ?_
    refine own_st (fr' := (mkF m 262 #[oI p0, oI p1, oI p2, oI 1, oI z121_0, oI 1, oI 2, .val (.ref ar), oI fi, oI se, .val (.ref d), .val (.ref co), .val (.ref ec), oI 1] [(.int 0), (.ref ec)])) (fun t k => XS.iconst X138.here hx rfl (hb hby at_261) k) ?_
    refine own_baload (j := (0 : Int32)) X138 hx hZ eq138 VE (by decide) (by decide) (v := (.int tb)) (hv0) (hb hby at_262) ?_
    refine own_st (fr' := (mkF m 265 #[oI p0, oI p1, oI p2, oI 1, oI z121_0, oI 1, oI 2, .val (.ref ar), oI fi, oI se, .val (.ref d), .val (.ref co), .val (.ref ec), oI 1] [(.ref ar), (.int tb)])) (fun t k => XS.aload X138.here hx rfl (hb hby at_263) rfl rfl k) ?_
    refine own_st (fr' := (mkF m 266 #[oI p0, oI p1, oI p2, oI 1, oI z121_0, oI 1, oI 2, .val (.ref ar), oI fi, oI se, .val (.ref d), .val (.ref co), .val (.ref ec), oI 1] [(.int 0), (.ref ar), (.int tb)])) (fun t k => XS.iconst X138.here hx rfl (hb hby at_265) k) ?_
    refine own_baload (j := (0 : Int32)) X138 hx hZ eq138 (((VF.keep K135 nin0).keep K136 nin0).keep K137 nin0) (by decide) (by decide) (v := (.int tb)) (hv0) (hb hby at_266) ?_
    refine own_st (fr' := (mkF m 270 #[oI p0, oI p1, oI p2, oI 1, oI z121_0, oI 1, oI 2, .val (.ref ar), oI fi, oI se, .val (.ref d), .val (.ref co), .val (.ref ec), oI 1] [])) (fun t k => XS.icmpNo X138.here hx rfl (hb hby at_267) rfl (own_teq (x := tb) (y := tb) (show tb.toInt = tb.toInt from rfl)).2 k) ?_
    refine own_st (fr' := (mkF m 272 #[oI p0, oI p1, oI p2, oI 1, oI z121_0, oI 1, oI 2, .val (.ref ar), oI fi, oI se, .val (.ref d), .val (.ref co), .val (.ref ec), oI 1] [(.ref ec)])) (fun t k => XS.aload X138.here hx rfl (hb hby at_270) rfl rfl k) ?_
    refine own_st (fr' := (mkF m 273 #[oI p0, oI p1, oI p2, oI 1, oI z121_0, oI 1, oI 2, .val (.ref ar), oI fi, oI se, .val (.ref d), .val (.ref co), .val (.ref ec), oI 1] [(.int 1), (.ref ec)])) (fun t k => XS.iconst X138.here hx rfl (hb hby at_272) k) ?_
    refine own_baload (j := (1 : Int32)) X138 hx hZ eq138 VE (by decide) (by decide) (v := (.int 1)) (hv1) (hb hby at_273) ?_
    refine own_st (fr' := (mkF m 276 #[oI p0, oI p1, oI p2, oI 1, oI z121_0, oI 1, oI 2, .val (.ref ar), oI fi, oI se, .val (.ref d), .val (.ref co), .val (.ref ec), oI 1] [(.ref ar), (.int 1)])) (fun t k => XS.aload X138.here hx rfl (hb hby at_274) rfl rfl k) ?_
    refine own_st (fr' := (mkF m 277 #[oI p0, oI p1, oI p2, oI 1, oI z121_0, oI 1, oI 2, .val (.ref ar), oI fi, oI se, .val (.ref d), .val (.ref co), .val (.ref ec), oI 1] [(.int 1), (.ref ar), (.int 1)])) (fun t k => XS.iconst X138.here hx rfl (hb hby at_276) k) ?_
    refine own_baload (j := (1 : Int32)) X138 hx hZ eq138 (((VF.keep K135 nin0).keep K136 nin0).keep K137 nin0) (by decide) (by decide) (v := (.int 1)) (hv1) (hb hby at_277) ?_
    refine own_st (fr' := (mkF m 281 #[oI p0, oI p1, oI p2, oI 1, oI z121_0, oI 1, oI 2, .val (.ref ar), oI fi, oI se, .val (.ref d), .val (.ref co), .val (.ref ec), oI 1] [])) (fun t k => XS.icmpNo X138.here hx rfl (hb hby at_278) rfl (own_teq (x := (1 : Int32)) (y := (1 : Int32)) (show 1 = 1 from by decide)).2 k) ?_
    refine own_st (fr' := (mkF m 283 #[oI p0, oI p1, oI p2, oI 1, oI z121_0, oI 1, oI 2, .val (.ref ar), oI fi, oI se, .val (.ref d), .val (.ref co), .val (.ref ec), oI 1] [(.ref ec)])) (fun t k => XS.aload X138.here hx rfl (hb hby at_281) rfl rfl k) ?_
    refine own_st (fr' := (mkF m 285 #[oI p0, oI p1, oI p2, oI 1, oI z121_0, oI 1, oI 2, .val (.ref ar), oI fi, oI se, .val (.ref d), .val (.ref co), .val (.ref ec), oI 1] [(.int 2), (.ref ec)])) (fun t k => XS.iload X138.here hx rfl (hb hby at_283) rfl  k) ?_
    refine own_st (fr' := (mkF m 286 #[oI p0, oI p1, oI p2, oI 1, oI z121_0, oI 1, oI 2, .val (.ref ar), oI fi, oI se, .val (.ref d), .val (.ref co), .val (.ref ec), oI 1] [(.int 1), (.int 2), (.ref ec)])) (fun t k => XS.iconst X138.here hx rfl (hb hby at_285) k) ?_
    refine own_st (fr' := (mkF m 287 #[oI p0, oI p1, oI p2, oI 1, oI z121_0, oI 1, oI 2, .val (.ref ar), oI fi, oI se, .val (.ref d), .val (.ref co), .val (.ref ec), oI 1] [(.int 1), (.ref ec)])) (fun t k => XS.isub X138.here hx rfl (hb hby at_286) rfl k) ?_
    refine own_baload (j := (1 : Int32)) X138 hx hZ eq138 VE (by decide) (by decide) (v := (.int 1)) (hv1) (hb hby at_287) ?_
    refine own_st (fr' := (mkF m 290 #[oI p0, oI p1, oI p2, oI 1, oI z121_0, oI 1, oI 2, .val (.ref ar), oI fi, oI se, .val (.ref d), .val (.ref co), .val (.ref ec), oI 1] [(.ref ar), (.int 1)])) (fun t k => XS.aload X138.here hx rfl (hb hby at_288) rfl rfl k) ?_
    refine own_st (fr' := (mkF m 292 #[oI p0, oI p1, oI p2, oI 1, oI z121_0, oI 1, oI 2, .val (.ref ar), oI fi, oI se, .val (.ref d), .val (.ref co), .val (.ref ec), oI 1] [(.int 2), (.ref ar), (.int 1)])) (fun t k => XS.iload X138.here hx rfl (hb hby at_290) rfl  k) ?_
    refine own_st (fr' := (mkF m 293 #[oI p0, oI p1, oI p2, oI 1, oI z121_0, oI 1, oI 2, .val (.ref ar), oI fi, oI se, .val (.ref d), .val (.ref co), .val (.ref ec), oI 1] [(.int 1), (.int 2), (.ref ar), (.int 1)])) (fun t k => XS.iconst X138.here hx rfl (hb hby at_292) k) ?_
    refine own_st (fr' := (mkF m 294 #[oI p0, oI p1, oI p2, oI 1, oI z121_0, oI 1, oI 2, .val (.ref ar), oI fi, oI se, .val (.ref d), .val (.ref co), .val (.ref ec), oI 1] [(.int 1), (.ref ar), (.int 1)])) (fun t k => XS.isub X138.here hx rfl (hb hby at_293) rfl k) ?_
    refine own_baload (j := (1 : Int32)) X138 hx hZ eq138 (((VF.keep K135 nin0).keep K136 nin0).keep K137 nin0) (by decide) (by decide) (v := (.int 1)) (hv1) (hb hby at_294) ?_
    refine own_st (fr' := (mkF m 298 #[oI p0, oI p1, oI p2, oI 1, oI z121_0, oI 1, oI 2, .val (.ref ar), oI fi, oI se, .val (.ref d), .val (.ref co), .val (.ref ec), oI 1] [])) (fun t k => XS.icmpNo X138.here hx rfl (hb hby at_295) rfl (own_teq (x := (1 : Int32)) (y := (1 : Int32)) (show 1 = 1 from by decide)).2 k) ?_
    refine own_st (fr' := (mkF m 299 #[oI p0, oI p1, oI p2, oI 1, oI z121_0, oI 1, oI 2, .val (.ref ar), oI fi, oI se, .val (.ref d), .val (.ref co), .val (.ref ec), oI 1] [(.int 1)])) (fun t k => XS.iconst X138.here hx rfl (hb hby at_298) k) ?_
    refine own_st (fr' := (mkF m 303 #[oI p0, oI p1, oI p2, oI 1, oI z121_0, oI 1, oI 2, .val (.ref ar), oI fi, oI se, .val (.ref d), .val (.ref co), .val (.ref ec), oI 1] [(.int 1)])) (fun t k => XS.goto X138.here hx rfl (pc0 := 299) (pc' := 303) rfl (hb hby at_299) (by decide) (by decide) k) ?_
    refine own_st (fr' := (mkF m 305 #[oI p0, oI p1, oI p2, oI 1, oI z121_0, oI 1, oI 2, .val (.ref ar), oI fi, oI se, .val (.ref d), .val (.ref co), .val (.ref ec), oI 1] [])) (fun t k => XS.istore X138.here hx rfl (hb hby at_303) rfl  (l' := #[oI p0, oI p1, oI p2, oI 1, oI z121_0, oI 1, oI 2, .val (.ref ar), oI fi, oI se, .val (.ref d), .val (.ref co), .val (.ref ec), oI 1]) rfl k) ?_
    refine own_st (fr' := (mkF m 307 #[oI p0, oI p1, oI p2, oI 1, oI z121_0, oI 1, oI 2, .val (.ref ar), oI fi, oI se, .val (.ref d), .val (.ref co), .val (.ref ec), oI 1] [(.int 1)])) (fun t k => XS.iload X138.here hx rfl (hb hby at_305) rfl  k) ?_
    refine own_st (fr' := (mkF m 310 #[oI p0, oI p1, oI p2, oI 1, oI z121_0, oI 1, oI 2, .val (.ref ar), oI fi, oI se, .val (.ref d), .val (.ref co), .val (.ref ec), oI 1] [])) (fun t k => XS.ifNo X138.here hx rfl (hb hby at_307) rfl ((if0 _ _).trans (own_feq (x := (1 : Int32)) (y := (0 : Int32)) (show ¬ 1 = 0 from by decide)).1) k) ?_
    refine own_st (fr' := (mkF m 312 #[oI p0, oI p1, oI p2, oI 1, oI z121_0, oI 1, oI 2, .val (.ref ar), oI fi, oI se, .val (.ref d), .val (.ref co), .val (.ref ec), oI 1] [(.int 1)])) (fun t k => XS.iload X138.here hx rfl (hb hby at_310) rfl  k) ?_
    refine own_st (fr' := (mkF m 313 #[oI p0, oI p1, oI p2, oI 1, oI z121_0, oI 1, oI 2, .val (.ref ar), oI fi, oI se, .val (.ref d), .val (.ref co), .val (.ref ec), oI 1] [(.int 1), (.int 1)])) (fun t k => XS.iconst X138.here hx rfl (hb hby at_312) k) ?_
    refine own_st (fr' := (mkF m 316 #[oI p0, oI p1, oI p2, oI 1, oI z121_0, oI 1, oI 2, .val (.ref ar), oI fi, oI se, .val (.ref d), .val (.ref co), .val (.ref ec), oI 1] [])) (fun t k => XS.icmpNo X138.here hx rfl (hb hby at_313) rfl (own_flt (x := (1 : Int32)) (y := (1 : Int32)) (show ¬ 1 < 1 from by decide)).1 k) ?_
    refine own_st (fr' := (mkF m 318 #[oI p0, oI p1, oI p2, oI 1, oI z121_0, oI 1, oI 2, .val (.ref ar), oI fi, oI se, .val (.ref d), .val (.ref co), .val (.ref ec), oI 1] [(.ref co)])) (fun t k => XS.aload X138.here hx rfl (hb hby at_316) rfl rfl k) ?_
    refine own_st (fr' := (mkF m 319 #[oI p0, oI p1, oI p2, oI 1, oI z121_0, oI 1, oI 2, .val (.ref ar), oI fi, oI se, .val (.ref d), .val (.ref co), .val (.ref ec), oI 1] [(.int 0), (.ref co)])) (fun t k => XS.iconst X138.here hx rfl (hb hby at_318) k) ?_
    refine own_baload (j := (0 : Int32)) X138 hx hZ eq138 (VC.keep K137 nin0) (by decide) (by decide) (v := (.int fi)) ((hgc 0 (by decide)).trans hv2) (hb hby at_319) ?_
    refine own_st (fr' := (mkF m 322 #[oI p0, oI p1, oI p2, oI 1, oI z121_0, oI 1, oI 2, .val (.ref ar), oI fi, oI se, .val (.ref d), .val (.ref co), .val (.ref ec), oI 1] [(.int fi), (.int fi)])) (fun t k => XS.iload X138.here hx rfl (hb hby at_320) rfl  k) ?_
    refine own_st (fr' := (mkF m 325 #[oI p0, oI p1, oI p2, oI 1, oI z121_0, oI 1, oI 2, .val (.ref ar), oI fi, oI se, .val (.ref d), .val (.ref co), .val (.ref ec), oI 1] [])) (fun t k => XS.icmpNo X138.here hx rfl (hb hby at_322) rfl (own_teq (x := fi) (y := fi) (show fi.toInt = fi.toInt from rfl)).2 k) ?_
    refine own_st (fr' := (mkF m 327 #[oI p0, oI p1, oI p2, oI 1, oI z121_0, oI 1, oI 2, .val (.ref ar), oI fi, oI se, .val (.ref d), .val (.ref co), .val (.ref ec), oI 1] [(.ref ec)])) (fun t k => XS.aload X138.here hx rfl (hb hby at_325) rfl rfl k) ?_
    refine own_st (fr' := (mkF m 329 #[oI p0, oI p1, oI p2, oI 1, oI z121_0, oI 1, oI 2, .val (.ref ar), oI fi, oI se, .val (.ref d), .val (.ref co), .val (.ref ec), oI 1] [(.int 2), (.ref ec)])) (fun t k => XS.iload X138.here hx rfl (hb hby at_327) rfl  k) ?_
    refine own_baload (j := (2 : Int32)) X138 hx hZ eq138 VE (by decide) (by decide) (v := (.int fi)) (hv2) (hb hby at_329) ?_
    refine own_st (fr' := (mkF m 332 #[oI p0, oI p1, oI p2, oI 1, oI z121_0, oI 1, oI 2, .val (.ref ar), oI fi, oI se, .val (.ref d), .val (.ref co), .val (.ref ec), oI 1] [(.int fi), (.int fi)])) (fun t k => XS.iload X138.here hx rfl (hb hby at_330) rfl  k) ?_
    refine own_st (fr' := (mkF m 335 #[oI p0, oI p1, oI p2, oI 1, oI z121_0, oI 1, oI 2, .val (.ref ar), oI fi, oI se, .val (.ref d), .val (.ref co), .val (.ref ec), oI 1] [])) (fun t k => XS.icmpNo X138.here hx rfl (hb hby at_332) rfl (own_teq (x := fi) (y := fi) (show fi.toInt = fi.toInt from rfl)).2 k) ?_
    refine own_st (fr' := (mkF m 336 #[oI p0, oI p1, oI p2, oI 1, oI z121_0, oI 1, oI 2, .val (.ref ar), oI fi, oI se, .val (.ref d), .val (.ref co), .val (.ref ec), oI 1] [(.int 1)])) (fun t k => XS.iconst X138.here hx rfl (hb hby at_335) k) ?_
    refine own_st (fr' := (mkF m 340 #[oI p0, oI p1, oI p2, oI 1, oI z121_0, oI 1, oI 2, .val (.ref ar), oI fi, oI se, .val (.ref d), .val (.ref co), .val (.ref ec), oI 1] [(.int 1)])) (fun t k => XS.goto X138.here hx rfl (pc0 := 336) (pc' := 340) rfl (hb hby at_336) (by decide) (by decide) k) ?_
    refine own_st (fr' := (mkF m 342 #[oI p0, oI p1, oI p2, oI 1, oI z121_0, oI 1, oI 2, .val (.ref ar), oI fi, oI se, .val (.ref d), .val (.ref co), .val (.ref ec), oI 1] [])) (fun t k => XS.istore X138.here hx rfl (hb hby at_340) rfl  (l' := #[oI p0, oI p1, oI p2, oI 1, oI z121_0, oI 1, oI 2, .val (.ref ar), oI fi, oI se, .val (.ref d), .val (.ref co), .val (.ref ec), oI 1]) rfl k) ?_
    refine own_st (fr' := (mkF m 344 #[oI p0, oI p1, oI p2, oI 1, oI z121_0, oI 1, oI 2, .val (.ref ar), oI fi, oI se, .val (.ref d), .val (.ref co), .val (.ref ec), oI 1] [(.int 1)])) (fun t k => XS.iload X138.here hx rfl (hb hby at_342) rfl  k) ?_
    refine own_st (fr' := (mkF m 347 #[oI p0, oI p1, oI p2, oI 1, oI z121_0, oI 1, oI 2, .val (.ref ar), oI fi, oI se, .val (.ref d), .val (.ref co), .val (.ref ec), oI 1] [])) (fun t k => XS.ifNo X138.here hx rfl (hb hby at_344) rfl ((if0 _ _).trans (own_feq (x := (1 : Int32)) (y := (0 : Int32)) (show ¬ 1 = 0 from by decide)).1) k) ?_
    refine own_st (fr' := (mkF m 349 #[oI p0, oI p1, oI p2, oI 1, oI z121_0, oI 1, oI 2, .val (.ref ar), oI fi, oI se, .val (.ref d), .val (.ref co), .val (.ref ec), oI 1] [(.int 1)])) (fun t k => XS.iload X138.here hx rfl (hb hby at_347) rfl  k) ?_
    refine own_st (fr' := (mkF m 350 #[oI p0, oI p1, oI p2, oI 1, oI z121_0, oI 1, oI 2, .val (.ref ar), oI fi, oI se, .val (.ref d), .val (.ref co), .val (.ref ec), oI 1] [(.int 2), (.int 1)])) (fun t k => XS.iconst X138.here hx rfl (hb hby at_349) k) ?_
    refine own_st (fr' := (mkF m 385 #[oI p0, oI p1, oI p2, oI 1, oI z121_0, oI 1, oI 2, .val (.ref ar), oI fi, oI se, .val (.ref d), .val (.ref co), .val (.ref ec), oI 1] [])) (fun t k => XS.icmpYes X138.here hx rfl (pc0 := 350) (pc' := 385) rfl (hb hby at_350) rfl (own_tlt (x := (1 : Int32)) (y := (2 : Int32)) (show 1 < 2 from by decide)).1 (by decide) (by decide) k) ?_
    refine own_st (fr' := (mkF m 387 #[oI p0, oI p1, oI p2, oI 1, oI z121_0, oI 1, oI 2, .val (.ref ar), oI fi, oI se, .val (.ref d), .val (.ref co), .val (.ref ec), oI 1] [(.int 1)])) (fun t k => XS.iload X138.here hx rfl (hb hby at_385) rfl  k) ?_
    refine own_st (fr' := (mkF m 390 #[oI p0, oI p1, oI p2, oI 1, oI z121_0, oI 1, oI 2, .val (.ref ar), oI fi, oI se, .val (.ref d), .val (.ref co), .val (.ref ec), oI 1] [])) (fun t k => XS.ifNo X138.here hx rfl (hb hby at_387) rfl ((if0 _ _).trans (own_feq (x := (1 : Int32)) (y := (0 : Int32)) (show ¬ 1 = 0 from by decide)).1) k) ?_
    refine own_st (fr' := (mkF m 392 #[oI p0, oI p1, oI p2, oI 1, oI z121_0, oI 1, oI 2, .val (.ref ar), oI fi, oI se, .val (.ref d), .val (.ref co), .val (.ref ec), oI 1] [(.int 1)])) (fun t k => XS.iload X138.here hx rfl (hb hby at_390) rfl  k) ?_
    refine own_st (fr' := (mkF m 393 #[oI p0, oI p1, oI p2, oI 1, oI z121_0, oI 1, oI 2, .val (.ref ar), oI fi, oI se, .val (.ref d), .val (.ref co), .val (.ref ec), oI 1] [(.int 3), (.int 1)])) (fun t k => XS.iconst X138.here hx rfl (hb hby at_392) k) ?_
    refine own_st (fr' := (mkF m 420 #[oI p0, oI p1, oI p2, oI 1, oI z121_0, oI 1, oI 2, .val (.ref ar), oI fi, oI se, .val (.ref d), .val (.ref co), .val (.ref ec), oI 1] [])) (fun t k => XS.icmpYes X138.here hx rfl (pc0 := 393) (pc' := 420) rfl (hb hby at_393) rfl (own_tlt (x := (1 : Int32)) (y := (3 : Int32)) (show 1 < 3 from by decide)).1 (by decide) (by decide) k) ?_
    refine own_st (fr' := (mkF m 422 #[oI p0, oI p1, oI p2, oI 1, oI z121_0, oI 1, oI 2, .val (.ref ar), oI fi, oI se, .val (.ref d), .val (.ref co), .val (.ref ec), oI 1] [(.int 1)])) (fun t k => XS.iload X138.here hx rfl (hb hby at_420) rfl  k) ?_
    exact own_retZ X138 hx hlk hret (Or.inr rfl) (hb hby at_422) (by decide) (by decide) (⟨rfl, N138⟩)
  · obtain rfl : fo = (2 : Int32) := Int32.toInt_inj.mp hfo
    refine own_st (fr' := (mkF m 29 #[oI p0, oI p1, oI p2, oI 2, oI z121_0, .unset, .unset, .unset, .unset, .unset, .unset, .unset, .unset, .unset] [(.int 2)])) (fun t k => XS.iloadN X0.here hx rfl (hb hby at_28) rfl  k) ?_
    refine own_callS X0 hx hZ (y := (⟨"com/example/linkvouch/linkvouch/apk/DerParsePinLaw", "lengthOf", "(I)I"⟩ : MethodName)) hown (hw _ (List.mem_of_getElem? (i := 0) rfl)) (hw _ (List.mem_of_getElem? (i := 1) rfl)) (hw _ (List.mem_of_getElem? (i := 2) rfl)) (hw _ (List.mem_of_getElem? (i := 3) rfl)) (by decide) (argsL := [(.int 2)]) (rest := []) (W := 0) (rm_len2 l Z a0 hw []  h0 n0 Z0 ) e0 (by rw [hml]; rfl) (lenOf pd_5 rfl) rfl (Nat.le_of_eq rfl) (hb hby at_29) (by decide) (by decide) (by decide) (by decide) ?_
    intro v139 T139 L139 X139 hQ139
    obtain ⟨rfl, Nq139, eq139⟩ := hQ139
    have N139 := Fr.app N0 Nq139
    refine own_st (fr' := (mkF m 34 #[oI p0, oI p1, oI p2, oI 2, oI z121_0, oI 3, .unset, .unset, .unset, .unset, .unset, .unset, .unset, .unset] [])) (fun t k => XS.istore X139.here hx rfl (hb hby at_32) rfl  (l' := #[oI p0, oI p1, oI p2, oI 2, oI z121_0, oI 3, .unset, .unset, .unset, .unset, .unset, .unset, .unset, .unset]) rfl k) ?_
    refine own_st (fr' := (mkF m 35 #[oI p0, oI p1, oI p2, oI 2, oI z121_0, oI 3, .unset, .unset, .unset, .unset, .unset, .unset, .unset, .unset] [(.int 2)])) (fun t k => XS.iloadN X139.here hx rfl (hb hby at_34) rfl  k) ?_
    refine own_st (fr' := (mkF m 36 #[oI p0, oI p1, oI p2, oI 2, oI z121_0, oI 3, .unset, .unset, .unset, .unset, .unset, .unset, .unset, .unset] [(.int 4), (.int 2)])) (fun t k => XS.iconst X139.here hx rfl (hb hby at_35) k) ?_
    refine own_st (fr' := (mkF m 39 #[oI p0, oI p1, oI p2, oI 2, oI z121_0, oI 3, .unset, .unset, .unset, .unset, .unset, .unset, .unset, .unset] [])) (fun t k => XS.icmpNo X139.here hx rfl (hb hby at_36) rfl (own_tlt (x := (2 : Int32)) (y := (4 : Int32)) (show 2 < 4 from by decide)).2.1 k) ?_
    refine own_st (fr' := (mkF m 40 #[oI p0, oI p1, oI p2, oI 2, oI z121_0, oI 3, .unset, .unset, .unset, .unset, .unset, .unset, .unset, .unset] [(.int 2)])) (fun t k => XS.iconst X139.here hx rfl (hb hby at_39) k) ?_
    refine own_st (fr' := (mkF m 42 #[oI p0, oI p1, oI p2, oI 2, oI z121_0, oI 3, oI 2, .unset, .unset, .unset, .unset, .unset, .unset, .unset] [])) (fun t k => XS.istore X139.here hx rfl (hb hby at_40) rfl  (l' := #[oI p0, oI p1, oI p2, oI 2, oI z121_0, oI 3, oI 2, .unset, .unset, .unset, .unset, .unset, .unset, .unset]) rfl k) ?_
    refine own_st (fr' := (mkF m 60 #[oI p0, oI p1, oI p2, oI 2, oI z121_0, oI 3, oI 2, .unset, .unset, .unset, .unset, .unset, .unset, .unset] [])) (fun t k => XS.goto X139.here hx rfl (pc0 := 42) (pc' := 60) rfl (hb hby at_42) (by decide) (by decide) k) ?_
    refine own_st (fr' := (mkF m 61 #[oI p0, oI p1, oI p2, oI 2, oI z121_0, oI 3, oI 2, .unset, .unset, .unset, .unset, .unset, .unset, .unset] [(.int 2)])) (fun t k => XS.iloadN X139.here hx rfl (hb hby at_60) rfl  k) ?_
    refine own_callS X139 hx hZ (y := (⟨"com/example/linkvouch/linkvouch/apk/DerParsePinLaw", "alloc", "(I)[B"⟩ : MethodName)) hown (hw _ (List.mem_of_getElem? (i := 4) rfl)) (hw _ (List.mem_of_getElem? (i := 5) rfl)) (hw _ (List.mem_of_getElem? (i := 2) rfl)) (hw _ (List.mem_of_getElem? (i := 6) rfl)) (by decide) (argsL := [(.int 2)]) (rest := []) (W := 0) (rm_alloc2 l Z a0 hw []  h0 n0 Z0 ) eq139 (by rw [hml]; rfl) (lenOf pd_6 rfl) rfl (Nat.le_of_eq rfl) (hb hby at_61) (by decide) (by decide) (by decide) (by decide) ?_
    intro v140 T140 L140 X140 hQ140
    obtain ⟨⟨ar, rfl, har, ge_ar, VA, EA⟩, Nq140, K140⟩ := hQ140
    have N140 := Fr.app N139 Nq140
    refine own_st (fr' := (mkF m 66 #[oI p0, oI p1, oI p2, oI 2, oI z121_0, oI 3, oI 2, .val (.ref ar), .unset, .unset, .unset, .unset, .unset, .unset] [])) (fun t k => XS.astore X140.here hx rfl (hb hby at_64) rfl rfl (l' := #[oI p0, oI p1, oI p2, oI 2, oI z121_0, oI 3, oI 2, .val (.ref ar), .unset, .unset, .unset, .unset, .unset, .unset]) rfl k) ?_
    refine own_st (fr' := (mkF m 68 #[oI p0, oI p1, oI p2, oI 2, oI z121_0, oI 3, oI 2, .val (.ref ar), .unset, .unset, .unset, .unset, .unset, .unset] [(.ref ar)])) (fun t k => XS.aload X140.here hx rfl (hb hby at_66) rfl rfl k) ?_
    refine own_st (fr' := (mkF m 69 #[oI p0, oI p1, oI p2, oI 2, oI z121_0, oI 3, oI 2, .val (.ref ar), .unset, .unset, .unset, .unset, .unset, .unset] [(.int 0), (.ref ar)])) (fun t k => XS.iconst X140.here hx rfl (hb hby at_68) k) ?_
    refine own_st (fr' := (mkF m 71 #[oI p0, oI p1, oI p2, oI 2, oI z121_0, oI 3, oI 2, .val (.ref ar), .unset, .unset, .unset, .unset, .unset, .unset] [(.int z121_0), (.int 0), (.ref ar)])) (fun t k => XS.iload X140.here hx rfl (hb hby at_69) rfl  k) ?_
    refine own_st (fr' := (mkF m 72 #[oI p0, oI p1, oI p2, oI 2, oI z121_0, oI 3, oI 2, .val (.ref ar), .unset, .unset, .unset, .unset, .unset, .unset] [(.int (z121_0.toInt8.toInt32)), (.int 0), (.ref ar)])) (fun t k => XS.i2b X140.here hx rfl (hb hby at_71) rfl k) ?_
    have qb := c_i2b z121_0
    generalize hTB : (z121_0.toInt8.toInt32) = tb at qb ⊢
    have hnb : nar .byte tb = tb := own_narb qb.2.1 (by omega)
    refine own_bastore X140 hx hZ rfl VA (by decide) (by decide) (hb hby at_72) ?_
    intro T141 h141 X141 e141 W141 V141
    have N141 := Fr.snoc X141 N140 ge_ar
    refine own_st (fr' := (mkF m 74 #[oI p0, oI p1, oI p2, oI 2, oI z121_0, oI 3, oI 2, .val (.ref ar), .unset, .unset, .unset, .unset, .unset, .unset] [(.int 2)])) (fun t k => XS.iloadN X141.here hx rfl (hb hby at_73) rfl  k) ?_
    refine own_st (fr' := (mkF m 75 #[oI p0, oI p1, oI p2, oI 2, oI z121_0, oI 3, oI 2, .val (.ref ar), .unset, .unset, .unset, .unset, .unset, .unset] [(.int 4), (.int 2)])) (fun t k => XS.iconst X141.here hx rfl (hb hby at_74) k) ?_
    refine own_st (fr' := (mkF m 78 #[oI p0, oI p1, oI p2, oI 2, oI z121_0, oI 3, oI 2, .val (.ref ar), .unset, .unset, .unset, .unset, .unset, .unset] [])) (fun t k => XS.icmpNo X141.here hx rfl (hb hby at_75) rfl (own_tlt (x := (2 : Int32)) (y := (4 : Int32)) (show 2 < 4 from by decide)).2.1 k) ?_
    refine own_st (fr' := (mkF m 80 #[oI p0, oI p1, oI p2, oI 2, oI z121_0, oI 3, oI 2, .val (.ref ar), .unset, .unset, .unset, .unset, .unset, .unset] [(.ref ar)])) (fun t k => XS.aload X141.here hx rfl (hb hby at_78) rfl rfl k) ?_
    refine own_st (fr' := (mkF m 81 #[oI p0, oI p1, oI p2, oI 2, oI z121_0, oI 3, oI 2, .val (.ref ar), .unset, .unset, .unset, .unset, .unset, .unset] [(.int 1), (.ref ar)])) (fun t k => XS.iconst X141.here hx rfl (hb hby at_80) k) ?_
    refine own_st (fr' := (mkF m 83 #[oI p0, oI p1, oI p2, oI 2, oI z121_0, oI 3, oI 2, .val (.ref ar), .unset, .unset, .unset, .unset, .unset, .unset] [(.int 3), (.int 1), (.ref ar)])) (fun t k => XS.iload X141.here hx rfl (hb hby at_81) rfl  k) ?_
    refine own_st (fr' := (mkF m 84 #[oI p0, oI p1, oI p2, oI 2, oI z121_0, oI 3, oI 2, .val (.ref ar), .unset, .unset, .unset, .unset, .unset, .unset] [(.int 3), (.int 1), (.ref ar)])) (fun t k => XS.i2b X141.here hx rfl (hb hby at_83) rfl k) ?_
    refine own_bastore X141 hx hZ e141 V141 (by decide) (by decide) (hb hby at_84) ?_
    intro T142 h142 X142 e142 W142 V142
    have N142 := Fr.snoc X142 N141 ge_ar
    refine own_st (fr' := (mkF m 133 #[oI p0, oI p1, oI p2, oI 2, oI z121_0, oI 3, oI 2, .val (.ref ar), .unset, .unset, .unset, .unset, .unset, .unset] [])) (fun t k => XS.goto X142.here hx rfl (pc0 := 85) (pc' := 133) rfl (hb hby at_85) (by decide) (by decide) k) ?_
    refine own_st (fr' := (mkF m 134 #[oI p0, oI p1, oI p2, oI 2, oI z121_0, oI 3, oI 2, .val (.ref ar), .unset, .unset, .unset, .unset, .unset, .unset] [(.int p2)])) (fun t k => XS.iloadN X142.here hx rfl (hb hby at_133) rfl  k) ?_
    refine own_st (fr' := (mkF m 135 #[oI p0, oI p1, oI p2, oI 2, oI z121_0, oI 3, oI 2, .val (.ref ar), .unset, .unset, .unset, .unset, .unset, .unset] [(.int (p2.toInt8.toInt32))])) (fun t k => XS.i2b X142.here hx rfl (hb hby at_134) rfl k) ?_
    refine own_st (fr' := (mkF m 137 #[oI p0, oI p1, oI p2, oI 2, oI z121_0, oI 3, oI 2, .val (.ref ar), .val (.int (p2.toInt8.toInt32)), .unset, .unset, .unset, .unset, .unset] [])) (fun t k => XS.istore X142.here hx rfl (hb hby at_135) rfl  (l' := #[oI p0, oI p1, oI p2, oI 2, oI z121_0, oI 3, oI 2, .val (.ref ar), .val (.int (p2.toInt8.toInt32)), .unset, .unset, .unset, .unset, .unset]) rfl k) ?_
    have q1 := c_i2b p2
    generalize hFI : p2.toInt8.toInt32 = fi at q1 ⊢
    have hnf : nar .byte fi = fi := own_narb q1.2.1 (by omega)
    refine own_st (fr' := (mkF m 138 #[oI p0, oI p1, oI p2, oI 2, oI z121_0, oI 3, oI 2, .val (.ref ar), oI fi, .unset, .unset, .unset, .unset, .unset] [(.int p2)])) (fun t k => XS.iloadN X142.here hx rfl (hb hby at_137) rfl  k) ?_
    refine own_st (fr' := (mkF m 140 #[oI p0, oI p1, oI p2, oI 2, oI z121_0, oI 3, oI 2, .val (.ref ar), oI fi, .unset, .unset, .unset, .unset, .unset] [(.int 8), (.int p2)])) (fun t k => XS.bipush X142.here hx rfl (hb hby at_138) k) ?_
    refine own_st (fr' := (mkF m 141 #[oI p0, oI p1, oI p2, oI 2, oI z121_0, oI 3, oI 2, .val (.ref ar), oI fi, .unset, .unset, .unset, .unset, .unset] [(.int (p2 >>> ((8 : Int32) &&& 31)))])) (fun t k => XS.ishr X142.here hx rfl (hb hby at_140) rfl k) ?_
    refine own_st (fr' := (mkF m 142 #[oI p0, oI p1, oI p2, oI 2, oI z121_0, oI 3, oI 2, .val (.ref ar), oI fi, .unset, .unset, .unset, .unset, .unset] [(.int ((p2 >>> ((8 : Int32) &&& 31)).toInt8.toInt32))])) (fun t k => XS.i2b X142.here hx rfl (hb hby at_141) rfl k) ?_
    refine own_st (fr' := (mkF m 144 #[oI p0, oI p1, oI p2, oI 2, oI z121_0, oI 3, oI 2, .val (.ref ar), oI fi, .val (.int ((p2 >>> ((8 : Int32) &&& 31)).toInt8.toInt32)), .unset, .unset, .unset, .unset] [])) (fun t k => XS.istore X142.here hx rfl (hb hby at_142) rfl  (l' := #[oI p0, oI p1, oI p2, oI 2, oI z121_0, oI 3, oI 2, .val (.ref ar), oI fi, .val (.int ((p2 >>> ((8 : Int32) &&& 31)).toInt8.toInt32)), .unset, .unset, .unset, .unset]) rfl k) ?_
    have q2 := c_i2b (p2 >>> ((8 : Int32) &&& 31))
    generalize hSE : (p2 >>> ((8 : Int32) &&& 31)).toInt8.toInt32 = se at q2 ⊢
    have hns : nar .byte se = se := own_narb q2.2.1 (by omega)
    refine own_st (fr' := (mkF m 146 #[oI p0, oI p1, oI p2, oI 2, oI z121_0, oI 3, oI 2, .val (.ref ar), oI fi, oI se, .unset, .unset, .unset, .unset] [(.int 3)])) (fun t k => XS.iload X142.here hx rfl (hb hby at_144) rfl  k) ?_
    refine own_st (fr' := (mkF m 147 #[oI p0, oI p1, oI p2, oI 2, oI z121_0, oI 3, oI 2, .val (.ref ar), oI fi, oI se, .unset, .unset, .unset, .unset] [(.int 1), (.int 3)])) (fun t k => XS.iconst X142.here hx rfl (hb hby at_146) k) ?_
    refine own_st (fr' := (mkF m 150 #[oI p0, oI p1, oI p2, oI 2, oI z121_0, oI 3, oI 2, .val (.ref ar), oI fi, oI se, .unset, .unset, .unset, .unset] [])) (fun t k => XS.icmpNo X142.here hx rfl (hb hby at_147) rfl (own_flt (x := (3 : Int32)) (y := (1 : Int32)) (show ¬ 3 < 1 from by decide)).1 k) ?_
    refine own_st (fr' := (mkF m 152 #[oI p0, oI p1, oI p2, oI 2, oI z121_0, oI 3, oI 2, .val (.ref ar), oI fi, oI se, .unset, .unset, .unset, .unset] [(.ref ar)])) (fun t k => XS.aload X142.here hx rfl (hb hby at_150) rfl rfl k) ?_
    refine own_st (fr' := (mkF m 154 #[oI p0, oI p1, oI p2, oI 2, oI z121_0, oI 3, oI 2, .val (.ref ar), oI fi, oI se, .unset, .unset, .unset, .unset] [(.int 2), (.ref ar)])) (fun t k => XS.iload X142.here hx rfl (hb hby at_152) rfl  k) ?_
    refine own_st (fr' := (mkF m 156 #[oI p0, oI p1, oI p2, oI 2, oI z121_0, oI 3, oI 2, .val (.ref ar), oI fi, oI se, .unset, .unset, .unset, .unset] [(.int fi), (.int 2), (.ref ar)])) (fun t k => XS.iload X142.here hx rfl (hb hby at_154) rfl  k) ?_
    refine own_bastore X142 hx hZ e142 V142 (by decide) (by decide) (hb hby at_156) ?_
    intro T143 h143 X143 e143 W143 V143
    have N143 := Fr.snoc X143 N142 ge_ar
    refine own_st (fr' := (mkF m 159 #[oI p0, oI p1, oI p2, oI 2, oI z121_0, oI 3, oI 2, .val (.ref ar), oI fi, oI se, .unset, .unset, .unset, .unset] [(.int 3)])) (fun t k => XS.iload X143.here hx rfl (hb hby at_157) rfl  k) ?_
    refine own_st (fr' := (mkF m 160 #[oI p0, oI p1, oI p2, oI 2, oI z121_0, oI 3, oI 2, .val (.ref ar), oI fi, oI se, .unset, .unset, .unset, .unset] [(.int 2), (.int 3)])) (fun t k => XS.iconst X143.here hx rfl (hb hby at_159) k) ?_
    refine own_st (fr' := (mkF m 163 #[oI p0, oI p1, oI p2, oI 2, oI z121_0, oI 3, oI 2, .val (.ref ar), oI fi, oI se, .unset, .unset, .unset, .unset] [])) (fun t k => XS.icmpNo X143.here hx rfl (hb hby at_160) rfl (own_flt (x := (3 : Int32)) (y := (2 : Int32)) (show ¬ 3 < 2 from by decide)).1 k) ?_
    refine own_st (fr' := (mkF m 165 #[oI p0, oI p1, oI p2, oI 2, oI z121_0, oI 3, oI 2, .val (.ref ar), oI fi, oI se, .unset, .unset, .unset, .unset] [(.ref ar)])) (fun t k => XS.aload X143.here hx rfl (hb hby at_163) rfl rfl k) ?_
    refine own_st (fr' := (mkF m 167 #[oI p0, oI p1, oI p2, oI 2, oI z121_0, oI 3, oI 2, .val (.ref ar), oI fi, oI se, .unset, .unset, .unset, .unset] [(.int 2), (.ref ar)])) (fun t k => XS.iload X143.here hx rfl (hb hby at_165) rfl  k) ?_
    refine own_st (fr' := (mkF m 169 #[oI p0, oI p1, oI p2, oI 2, oI z121_0, oI 3, oI 2, .val (.ref ar), oI fi, oI se, .unset, .unset, .unset, .unset] [(.int 3), (.int 2), (.ref ar)])) (fun t k => XS.iload X143.here hx rfl (hb hby at_167) rfl  k) ?_
    refine own_st (fr' := (mkF m 170 #[oI p0, oI p1, oI p2, oI 2, oI z121_0, oI 3, oI 2, .val (.ref ar), oI fi, oI se, .unset, .unset, .unset, .unset] [(.int 5), (.ref ar)])) (fun t k => XS.iadd X143.here hx rfl (hb hby at_169) rfl k) ?_
    refine own_st (fr' := (mkF m 171 #[oI p0, oI p1, oI p2, oI 2, oI z121_0, oI 3, oI 2, .val (.ref ar), oI fi, oI se, .unset, .unset, .unset, .unset] [(.int 1), (.int 5), (.ref ar)])) (fun t k => XS.iconst X143.here hx rfl (hb hby at_170) k) ?_
    refine own_st (fr' := (mkF m 172 #[oI p0, oI p1, oI p2, oI 2, oI z121_0, oI 3, oI 2, .val (.ref ar), oI fi, oI se, .unset, .unset, .unset, .unset] [(.int 4), (.ref ar)])) (fun t k => XS.isub X143.here hx rfl (hb hby at_171) rfl k) ?_
    refine own_st (fr' := (mkF m 174 #[oI p0, oI p1, oI p2, oI 2, oI z121_0, oI 3, oI 2, .val (.ref ar), oI fi, oI se, .unset, .unset, .unset, .unset] [(.int se), (.int 4), (.ref ar)])) (fun t k => XS.iload X143.here hx rfl (hb hby at_172) rfl  k) ?_
    refine own_bastore X143 hx hZ e143 V143 (by decide) (by decide) (hb hby at_174) ?_
    intro T144 h144 X144 e144 W144 V144
    have N144 := Fr.snoc X144 N143 ge_ar
    obtain ⟨ff, VF, hv⟩ : ∃ ff : Nat → Value, own_A Z h144 ar .byte 5 ff ∧ (ff 0 = .int tb ∧ ff 1 = .int (3 : Int32) ∧ ff 2 = .int fi ∧ ff 4 = .int se ∧ ff 3 = .int 0) := ⟨_, V144, by show Value.int (nar .byte tb) = _; rw [hnb], rfl, by show Value.int (nar .byte fi) = _; rw [hnf], by show Value.int (nar .byte se) = _; rw [hns], rfl⟩
    obtain ⟨hv0, hv1, hv2, hv4, hvz⟩ := hv
    have hbk : tb &&& 255 = z121_0 := own_back z121_0 tb hz121.1 hz121.2.1 (by omega)
    refine own_st (fr' := (mkF m 177 #[oI p0, oI p1, oI p2, oI 2, oI z121_0, oI 3, oI 2, .val (.ref ar), oI fi, oI se, .unset, .unset, .unset, .unset] [(.ref ar)])) (fun t k => XS.aload X144.here hx rfl (hb hby at_175) rfl rfl k) ?_
    refine own_callS X144 hx hZ (y := (⟨"com/example/linkvouch/linkvouch/apk/Der", "parse", "([B)Lcom/example/linkvouch/linkvouch/apk/Der;"⟩ : MethodName)) hown (hw _ (List.mem_of_getElem? (i := 8) rfl)) (hw _ (List.mem_of_getElem? (i := 9) rfl)) (hw _ (List.mem_of_getElem? (i := 10) rfl)) (hw _ (List.mem_of_getElem? (i := 11) rfl)) (by decide) (argsL := [(.ref ar)]) (rest := []) (W := 0) (rm_parse2 l Z a0 hw [] ar tb ff h144 n0 (Nat.le_trans (Nat.le_trans (Nat.le_trans (Nat.le_trans (Nat.le_trans Z0 K140.1) (Nat.le_of_eq (Wr.size W141).symm)) (Nat.le_of_eq (Wr.size W142).symm)) (Nat.le_of_eq (Wr.size W143).symm)) (Nat.le_of_eq (Wr.size W144).symm)) VF hv0 hv1 (by rw [hbk]; exact hz121.2.2)) e144 (by rw [hml]; rfl) (lenOf pd_7 rfl) rfl (Nat.le_of_eq rfl) (hb hby at_177) (by decide) (by decide) (by decide) (by decide) ?_
    intro v145 T145 L145 X145 hQ145
    obtain ⟨⟨d, rfl, hd0, Ed, Fd0, Fd1, Fd2, Fd3, Fd4⟩, Nq145, K145⟩ := hQ145
    rw [hbk] at Fd1
    have N145 := Fr.app N144 Nq145
    refine own_st (fr' := (mkF m 182 #[oI p0, oI p1, oI p2, oI 2, oI z121_0, oI 3, oI 2, .val (.ref ar), oI fi, oI se, .val (.ref d), .unset, .unset, .unset] [])) (fun t k => XS.astore X145.here hx rfl (hb hby at_180) rfl rfl (l' := #[oI p0, oI p1, oI p2, oI 2, oI z121_0, oI 3, oI 2, .val (.ref ar), oI fi, oI se, .val (.ref d), .unset, .unset, .unset]) rfl k) ?_
    refine own_st (fr' := (mkF m 184 #[oI p0, oI p1, oI p2, oI 2, oI z121_0, oI 3, oI 2, .val (.ref ar), oI fi, oI se, .val (.ref d), .unset, .unset, .unset] [(.ref d)])) (fun t k => XS.aload X145.here hx rfl (hb hby at_182) rfl rfl k) ?_
    refine own_callV X145 hx hZ (y := (⟨"com/example/linkvouch/linkvouch/apk/Der", "content", "()[B"⟩ : MethodName)) (z := (⟨"com/example/linkvouch/linkvouch/apk/Der", "content", "()[B"⟩ : MethodName)) hown (hw _ (List.mem_of_getElem? (i := 33) rfl)) (hw _ (List.mem_of_getElem? (i := 34) rfl)) (notFace_of_selects (args := #[]) (mvT hZ (hw _ (List.mem_of_getElem? (i := 36) rfl)))) (hw _ (List.mem_of_getElem? (i := 36) rfl)) (hw _ (List.mem_of_getElem? (i := 35) rfl)) (hw _ (List.mem_of_getElem? (i := 10) rfl)) (hw _ (List.mem_of_getElem? (i := 37) rfl)) (by decide) (a := d) (argsL := []) (rest := []) (W := 0) (rm_cont2 l Z a0 hw [] d ar ff T145.heap n0 (Nat.le_trans (Nat.le_trans (Nat.le_trans (Nat.le_trans (Nat.le_trans (Nat.le_trans Z0 K140.1) (Nat.le_of_eq (Wr.size W141).symm)) (Nat.le_of_eq (Wr.size W142).symm)) (Nat.le_of_eq (Wr.size W143).symm)) (Nat.le_of_eq (Wr.size W144).symm)) K145.1) Fd0 (VF.keep K145 nin0) ((Exa.wr W144 (Exa.wr W143 (Exa.wr W142 (Exa.wr W141 EA)))).keep K145) Fd4 Fd3) rfl Ed (by rw [hml]; rfl) (lenOf pd_8 rfl) rfl (Nat.le_of_eq rfl) (hb hby at_184) (by decide) (by decide) (by decide) (by decide) ?_
    intro v146 T146 L146 X146 hQ146
    obtain ⟨⟨co, gc, rfl, hco, VC, hgc⟩, Nq146, K146⟩ := hQ146
    have N146 := Fr.app N145 Nq146
    refine own_st (fr' := (mkF m 189 #[oI p0, oI p1, oI p2, oI 2, oI z121_0, oI 3, oI 2, .val (.ref ar), oI fi, oI se, .val (.ref d), .val (.ref co), .unset, .unset] [])) (fun t k => XS.astore X146.here hx rfl (hb hby at_187) rfl rfl (l' := #[oI p0, oI p1, oI p2, oI 2, oI z121_0, oI 3, oI 2, .val (.ref ar), oI fi, oI se, .val (.ref d), .val (.ref co), .unset, .unset]) rfl k) ?_
    refine own_st (fr' := (mkF m 191 #[oI p0, oI p1, oI p2, oI 2, oI z121_0, oI 3, oI 2, .val (.ref ar), oI fi, oI se, .val (.ref d), .val (.ref co), .unset, .unset] [(.ref d)])) (fun t k => XS.aload X146.here hx rfl (hb hby at_189) rfl rfl k) ?_
    refine own_callV X146 hx hZ (y := (⟨"com/example/linkvouch/linkvouch/apk/Der", "encoded", "()[B"⟩ : MethodName)) (z := (⟨"com/example/linkvouch/linkvouch/apk/Der", "encoded", "()[B"⟩ : MethodName)) hown (hw _ (List.mem_of_getElem? (i := 56) rfl)) (hw _ (List.mem_of_getElem? (i := 57) rfl)) (notFace_of_selects (args := #[]) (mvT hZ (hw _ (List.mem_of_getElem? (i := 59) rfl)))) (hw _ (List.mem_of_getElem? (i := 59) rfl)) (hw _ (List.mem_of_getElem? (i := 58) rfl)) (hw _ (List.mem_of_getElem? (i := 10) rfl)) (hw _ (List.mem_of_getElem? (i := 60) rfl)) (by decide) (a := d) (argsL := []) (rest := []) (W := 0) (rm_enc2 l Z a0 hw [] d ar ff T146.heap n0 (Nat.le_trans (Nat.le_trans (Nat.le_trans (Nat.le_trans (Nat.le_trans (Nat.le_trans (Nat.le_trans Z0 K140.1) (Nat.le_of_eq (Wr.size W141).symm)) (Nat.le_of_eq (Wr.size W142).symm)) (Nat.le_of_eq (Wr.size W143).symm)) (Nat.le_of_eq (Wr.size W144).symm)) K145.1) K146.1) (Fd0.keep K146 nin0) ((VF.keep K145 nin0).keep K146 nin0) (((Exa.wr W144 (Exa.wr W143 (Exa.wr W142 (Exa.wr W141 EA)))).keep K145).keep K146) (Fd4.keep K146 nin0) (Fd2.keep K146 nin0)) rfl (Ed.keep K146) (by rw [hml]; rfl) (lenOf pd_8 rfl) rfl (Nat.le_of_eq rfl) (hb hby at_191) (by decide) (by decide) (by decide) (by decide) ?_
    intro v147 T147 L147 X147 hQ147
    obtain ⟨⟨ec, rfl, hec, VE⟩, Nq147, K147⟩ := hQ147
    have N147 := Fr.app N146 Nq147
    refine own_st (fr' := (mkF m 196 #[oI p0, oI p1, oI p2, oI 2, oI z121_0, oI 3, oI 2, .val (.ref ar), oI fi, oI se, .val (.ref d), .val (.ref co), .val (.ref ec), .unset] [])) (fun t k => XS.astore X147.here hx rfl (hb hby at_194) rfl rfl (l' := #[oI p0, oI p1, oI p2, oI 2, oI z121_0, oI 3, oI 2, .val (.ref ar), oI fi, oI se, .val (.ref d), .val (.ref co), .val (.ref ec), .unset]) rfl k) ?_
    refine own_st (fr' := (mkF m 198 #[oI p0, oI p1, oI p2, oI 2, oI z121_0, oI 3, oI 2, .val (.ref ar), oI fi, oI se, .val (.ref d), .val (.ref co), .val (.ref ec), .unset] [(.ref d)])) (fun t k => XS.aload X147.here hx rfl (hb hby at_196) rfl rfl k) ?_
    refine own_callV X147 hx hZ (y := (⟨"com/example/linkvouch/linkvouch/apk/Der", "tag", "()I"⟩ : MethodName)) (z := (⟨"com/example/linkvouch/linkvouch/apk/Der", "tag", "()I"⟩ : MethodName)) hown (hw _ (List.mem_of_getElem? (i := 70) rfl)) (hw _ (List.mem_of_getElem? (i := 71) rfl)) (notFace_of_selects (args := #[]) (mvT hZ (hw _ (List.mem_of_getElem? (i := 73) rfl)))) (hw _ (List.mem_of_getElem? (i := 73) rfl)) (hw _ (List.mem_of_getElem? (i := 72) rfl)) (hw _ (List.mem_of_getElem? (i := 10) rfl)) (hw _ (List.mem_of_getElem? (i := 74) rfl)) (by decide) (a := d) (argsL := []) (rest := []) (W := 0) (rm_tag l Z a0 hw [] d z121_0 T147.heap n0 (Nat.le_trans (Nat.le_trans (Nat.le_trans (Nat.le_trans (Nat.le_trans (Nat.le_trans (Nat.le_trans (Nat.le_trans Z0 K140.1) (Nat.le_of_eq (Wr.size W141).symm)) (Nat.le_of_eq (Wr.size W142).symm)) (Nat.le_of_eq (Wr.size W143).symm)) (Nat.le_of_eq (Wr.size W144).symm)) K145.1) K146.1) K147.1) ((Fd1.keep K146 nin0).keep K147 nin0)) rfl ((Ed.keep K146).keep K147) (by rw [hml]; rfl) (lenOf pd_9 rfl) rfl (Nat.le_of_eq rfl) (hb hby at_198) (by decide) (by decide) (by decide) (by decide) ?_
    intro v148 T148 L148 X148 hQ148
    obtain ⟨rfl, Nq148, eq148⟩ := hQ148
    have N148 := Fr.app N147 Nq148
    refine own_st (fr' := (mkF m 203 #[oI p0, oI p1, oI p2, oI 2, oI z121_0, oI 3, oI 2, .val (.ref ar), oI fi, oI se, .val (.ref d), .val (.ref co), .val (.ref ec), .unset] [(.int z121_0), (.int z121_0)])) (fun t k => XS.iload X148.here hx rfl (hb hby at_201) rfl  k) ?_
    refine own_st (fr' := (mkF m 206 #[oI p0, oI p1, oI p2, oI 2, oI z121_0, oI 3, oI 2, .val (.ref ar), oI fi, oI se, .val (.ref d), .val (.ref co), .val (.ref ec), .unset] [])) (fun t k => XS.icmpNo X148.here hx rfl (hb hby at_203) rfl (own_teq (x := z121_0) (y := z121_0) (show z121_0.toInt = z121_0.toInt from rfl)).2 k) ?_
    refine own_st (fr' := (mkF m 207 #[oI p0, oI p1, oI p2, oI 2, oI z121_0, oI 3, oI 2, .val (.ref ar), oI fi, oI se, .val (.ref d), .val (.ref co), .val (.ref ec), .unset] [(.int 1)])) (fun t k => XS.iconst X148.here hx rfl (hb hby at_206) k) ?_
    refine own_st (fr' := (mkF m 211 #[oI p0, oI p1, oI p2, oI 2, oI z121_0, oI 3, oI 2, .val (.ref ar), oI fi, oI se, .val (.ref d), .val (.ref co), .val (.ref ec), .unset] [(.int 1)])) (fun t k => XS.goto X148.here hx rfl (pc0 := 207) (pc' := 211) rfl (hb hby at_207) (by decide) (by decide) k) ?_
    refine own_st (fr' := (mkF m 213 #[oI p0, oI p1, oI p2, oI 2, oI z121_0, oI 3, oI 2, .val (.ref ar), oI fi, oI se, .val (.ref d), .val (.ref co), .val (.ref ec), oI 1] [])) (fun t k => XS.istore X148.here hx rfl (hb hby at_211) rfl  (l' := #[oI p0, oI p1, oI p2, oI 2, oI z121_0, oI 3, oI 2, .val (.ref ar), oI fi, oI se, .val (.ref d), .val (.ref co), .val (.ref ec), oI 1]) rfl k) ?_
    refine own_st (fr' := (mkF m 215 #[oI p0, oI p1, oI p2, oI 2, oI z121_0, oI 3, oI 2, .val (.ref ar), oI fi, oI se, .val (.ref d), .val (.ref co), .val (.ref ec), oI 1] [(.int 1)])) (fun t k => XS.iload X148.here hx rfl (hb hby at_213) rfl  k) ?_
    refine own_st (fr' := (mkF m 218 #[oI p0, oI p1, oI p2, oI 2, oI z121_0, oI 3, oI 2, .val (.ref ar), oI fi, oI se, .val (.ref d), .val (.ref co), .val (.ref ec), oI 1] [])) (fun t k => XS.ifNo X148.here hx rfl (hb hby at_215) rfl ((if0 _ _).trans (own_feq (x := (1 : Int32)) (y := (0 : Int32)) (show ¬ 1 = 0 from by decide)).1) k) ?_
    refine own_st (fr' := (mkF m 220 #[oI p0, oI p1, oI p2, oI 2, oI z121_0, oI 3, oI 2, .val (.ref ar), oI fi, oI se, .val (.ref d), .val (.ref co), .val (.ref ec), oI 1] [(.ref co)])) (fun t k => XS.aload X148.here hx rfl (hb hby at_218) rfl rfl k) ?_
    refine own_alen X148 hx hZ eq148 (VC.keep K147 nin0) (hb hby at_220) ?_
    refine own_st (fr' := (mkF m 223 #[oI p0, oI p1, oI p2, oI 2, oI z121_0, oI 3, oI 2, .val (.ref ar), oI fi, oI se, .val (.ref d), .val (.ref co), .val (.ref ec), oI 1] [(.int 3), (.int 3)])) (fun t k => XS.iload X148.here hx rfl (hb hby at_221) rfl  k) ?_
    refine own_st (fr' := (mkF m 226 #[oI p0, oI p1, oI p2, oI 2, oI z121_0, oI 3, oI 2, .val (.ref ar), oI fi, oI se, .val (.ref d), .val (.ref co), .val (.ref ec), oI 1] [])) (fun t k => XS.icmpNo X148.here hx rfl (hb hby at_223) rfl (own_teq (x := (3 : Int32)) (y := (3 : Int32)) (show 3 = 3 from by decide)).2 k) ?_
    refine own_st (fr' := (mkF m 227 #[oI p0, oI p1, oI p2, oI 2, oI z121_0, oI 3, oI 2, .val (.ref ar), oI fi, oI se, .val (.ref d), .val (.ref co), .val (.ref ec), oI 1] [(.int 1)])) (fun t k => XS.iconst X148.here hx rfl (hb hby at_226) k) ?_
    refine own_st (fr' := (mkF m 231 #[oI p0, oI p1, oI p2, oI 2, oI z121_0, oI 3, oI 2, .val (.ref ar), oI fi, oI se, .val (.ref d), .val (.ref co), .val (.ref ec), oI 1] [(.int 1)])) (fun t k => XS.goto X148.here hx rfl (pc0 := 227) (pc' := 231) rfl (hb hby at_227) (by decide) (by decide) k) ?_
    refine own_st (fr' := (mkF m 233 #[oI p0, oI p1, oI p2, oI 2, oI z121_0, oI 3, oI 2, .val (.ref ar), oI fi, oI se, .val (.ref d), .val (.ref co), .val (.ref ec), oI 1] [])) (fun t k => XS.istore X148.here hx rfl (hb hby at_231) rfl  (l' := #[oI p0, oI p1, oI p2, oI 2, oI z121_0, oI 3, oI 2, .val (.ref ar), oI fi, oI se, .val (.ref d), .val (.ref co), .val (.ref ec), oI 1]) rfl k) ?_
    refine own_st (fr' := (mkF m 235 #[oI p0, oI p1, oI p2, oI 2, oI z121_0, oI 3, oI 2, .val (.ref ar), oI fi, oI se, .val (.ref d), .val (.ref co), .val (.ref ec), oI 1] [(.int 1)])) (fun t k => XS.iload X148.here hx rfl (hb hby at_233) rfl  k) ?_
    refine own_st (fr' := (mkF m 238 #[oI p0, oI p1, oI p2, oI 2, oI z121_0, oI 3, oI 2, .val (.ref ar), oI fi, oI se, .val (.ref d), .val (.ref co), .val (.ref ec), oI 1] [])) (fun t k => XS.ifNo X148.here hx rfl (hb hby at_235) rfl ((if0 _ _).trans (own_feq (x := (1 : Int32)) (y := (0 : Int32)) (show ¬ 1 = 0 from by decide)).1) k) ?_
    refine own_st (fr' := (mkF m 240 #[oI p0, oI p1, oI p2, oI 2, oI z121_0, oI 3, oI 2, .val (.ref ar), oI fi, oI se, .val (.ref d), .val (.ref co), .val (.ref ec), oI 1] [(.ref ec)])) (fun t k => XS.aload X148.here hx rfl (hb hby at_238) rfl rfl k) ?_
    refine own_alen X148 hx hZ eq148 VE (hb hby at_240) ?_
    refine own_st (fr' := (mkF m 243 #[oI p0, oI p1, oI p2, oI 2, oI z121_0, oI 3, oI 2, .val (.ref ar), oI fi, oI se, .val (.ref d), .val (.ref co), .val (.ref ec), oI 1] [(.ref ar), (.int 5)])) (fun t k => XS.aload X148.here hx rfl (hb hby at_241) rfl rfl k) ?_
    refine own_alen X148 hx hZ eq148 (((VF.keep K145 nin0).keep K146 nin0).keep K147 nin0) (hb hby at_243) ?_
    refine own_st (fr' := (mkF m 247 #[oI p0, oI p1, oI p2, oI 2, oI z121_0, oI 3, oI 2, .val (.ref ar), oI fi, oI se, .val (.ref d), .val (.ref co), .val (.ref ec), oI 1] [])) (fun t k => XS.icmpNo X148.here hx rfl (hb hby at_244) rfl (own_teq (x := (5 : Int32)) (y := (5 : Int32)) (show 5 = 5 from by decide)).2 k) ?_
    refine own_st (fr' := (mkF m 248 #[oI p0, oI p1, oI p2, oI 2, oI z121_0, oI 3, oI 2, .val (.ref ar), oI fi, oI se, .val (.ref d), .val (.ref co), .val (.ref ec), oI 1] [(.int 1)])) (fun t k => XS.iconst X148.here hx rfl (hb hby at_247) k) ?_
    refine own_st (fr' := (mkF m 252 #[oI p0, oI p1, oI p2, oI 2, oI z121_0, oI 3, oI 2, .val (.ref ar), oI fi, oI se, .val (.ref d), .val (.ref co), .val (.ref ec), oI 1] [(.int 1)])) (fun t k => XS.goto X148.here hx rfl (pc0 := 248) (pc' := 252) rfl (hb hby at_248) (by decide) (by decide) k) ?_
    refine own_st (fr' := (mkF m 254 #[oI p0, oI p1, oI p2, oI 2, oI z121_0, oI 3, oI 2, .val (.ref ar), oI fi, oI se, .val (.ref d), .val (.ref co), .val (.ref ec), oI 1] [])) (fun t k => XS.istore X148.here hx rfl (hb hby at_252) rfl  (l' := #[oI p0, oI p1, oI p2, oI 2, oI z121_0, oI 3, oI 2, .val (.ref ar), oI fi, oI se, .val (.ref d), .val (.ref co), .val (.ref ec), oI 1]) rfl k) ?_
    refine own_st (fr' := (mkF m 256 #[oI p0, oI p1, oI p2, oI 2, oI z121_0, oI 3, oI 2, .val (.ref ar), oI fi, oI se, .val (.ref d), .val (.ref co), .val (.ref ec), oI 1] [(.int 1)])) (fun t k => XS.iload X148.here hx rfl (hb hby at_254) rfl  k) ?_
    refine own_st (fr' := (mkF m 259 #[oI p0, oI p1, oI p2, oI 2, oI z121_0, oI 3, oI 2, .val (.ref ar), oI fi, oI se, .val (.ref d), .val (.ref co), .val (.ref ec), oI 1] [])) (fun t k => XS.ifNo X148.here hx rfl (hb hby at_256) rfl ((if0 _ _).trans (own_feq (x := (1 : Int32)) (y := (0 : Int32)) (show ¬ 1 = 0 from by decide)).1) k) ?_
    refine own_st (fr' := (mkF m 261 #[oI p0, oI p1, oI p2, oI 2, oI z121_0, oI 3, oI 2, .val (.ref ar), oI fi, oI se, .val (.ref d), .val (.ref co), .val (.ref ec), oI 1] [(.ref ec)])) (fun t k => XS.aload X148.here hx rfl (hb hby at_259) rfl rfl k) ?_
    refine own_st (fr' := (mkF m 262 #[oI p0, oI p1, oI p2, oI 2, oI z121_0, oI 3, oI 2, .val (.ref ar), oI fi, oI se, .val (.ref d), .val (.ref co), .val (.ref ec), oI 1] [(.int 0), (.ref ec)])) (fun t k => XS.iconst X148.here hx rfl (hb hby at_261) k) ?_
    refine own_baload (j := (0 : Int32)) X148 hx hZ eq148 VE (by decide) (by decide) (v := (.int tb)) (hv0) (hb hby at_262) ?_
    refine own_st (fr' := (mkF m 265 #[oI p0, oI p1, oI p2, oI 2, oI z121_0, oI 3, oI 2, .val (.ref ar), oI fi, oI se, .val (.ref d), .val (.ref co), .val (.ref ec), oI 1] [(.ref ar), (.int tb)])) (fun t k => XS.aload X148.here hx rfl (hb hby at_263) rfl rfl k) ?_
    refine own_st (fr' := (mkF m 266 #[oI p0, oI p1, oI p2, oI 2, oI z121_0, oI 3, oI 2, .val (.ref ar), oI fi, oI se, .val (.ref d), .val (.ref co), .val (.ref ec), oI 1] [(.int 0), (.ref ar), (.int tb)])) (fun t k => XS.iconst X148.here hx rfl (hb hby at_265) k) ?_
    refine own_baload (j := (0 : Int32)) X148 hx hZ eq148 (((VF.keep K145 nin0).keep K146 nin0).keep K147 nin0) (by decide) (by decide) (v := (.int tb)) (hv0) (hb hby at_266) ?_
    refine own_st (fr' := (mkF m 270 #[oI p0, oI p1, oI p2, oI 2, oI z121_0, oI 3, oI 2, .val (.ref ar), oI fi, oI se, .val (.ref d), .val (.ref co), .val (.ref ec), oI 1] [])) (fun t k => XS.icmpNo X148.here hx rfl (hb hby at_267) rfl (own_teq (x := tb) (y := tb) (show tb.toInt = tb.toInt from rfl)).2 k) ?_
    refine own_st (fr' := (mkF m 272 #[oI p0, oI p1, oI p2, oI 2, oI z121_0, oI 3, oI 2, .val (.ref ar), oI fi, oI se, .val (.ref d), .val (.ref co), .val (.ref ec), oI 1] [(.ref ec)])) (fun t k => XS.aload X148.here hx rfl (hb hby at_270) rfl rfl k) ?_
    refine own_st (fr' := (mkF m 273 #[oI p0, oI p1, oI p2, oI 2, oI z121_0, oI 3, oI 2, .val (.ref ar), oI fi, oI se, .val (.ref d), .val (.ref co), .val (.ref ec), oI 1] [(.int 1), (.ref ec)])) (fun t k => XS.iconst X148.here hx rfl (hb hby at_272) k) ?_
    refine own_baload (j := (1 : Int32)) X148 hx hZ eq148 VE (by decide) (by decide) (v := (.int 3)) (hv1) (hb hby at_273) ?_
    refine own_st (fr' := (mkF m 276 #[oI p0, oI p1, oI p2, oI 2, oI z121_0, oI 3, oI 2, .val (.ref ar), oI fi, oI se, .val (.ref d), .val (.ref co), .val (.ref ec), oI 1] [(.ref ar), (.int 3)])) (fun t k => XS.aload X148.here hx rfl (hb hby at_274) rfl rfl k) ?_
    refine own_st (fr' := (mkF m 277 #[oI p0, oI p1, oI p2, oI 2, oI z121_0, oI 3, oI 2, .val (.ref ar), oI fi, oI se, .val (.ref d), .val (.ref co), .val (.ref ec), oI 1] [(.int 1), (.ref ar), (.int 3)])) (fun t k => XS.iconst X148.here hx rfl (hb hby at_276) k) ?_
    refine own_baload (j := (1 : Int32)) X148 hx hZ eq148 (((VF.keep K145 nin0).keep K146 nin0).keep K147 nin0) (by decide) (by decide) (v := (.int 3)) (hv1) (hb hby at_277) ?_
    refine own_st (fr' := (mkF m 281 #[oI p0, oI p1, oI p2, oI 2, oI z121_0, oI 3, oI 2, .val (.ref ar), oI fi, oI se, .val (.ref d), .val (.ref co), .val (.ref ec), oI 1] [])) (fun t k => XS.icmpNo X148.here hx rfl (hb hby at_278) rfl (own_teq (x := (3 : Int32)) (y := (3 : Int32)) (show 3 = 3 from by decide)).2 k) ?_
    refine own_st (fr' := (mkF m 283 #[oI p0, oI p1, oI p2, oI 2, oI z121_0, oI 3, oI 2, .val (.ref ar), oI fi, oI se, .val (.ref d), .val (.ref co), .val (.ref ec), oI 1] [(.ref ec)])) (fun t k => XS.aload X148.here hx rfl (hb hby at_281) rfl rfl k) ?_
    refine own_st (fr' := (mkF m 285 #[oI p0, oI p1, oI p2, oI 2, oI z121_0, oI 3, oI 2, .val (.ref ar), oI fi, oI se, .val (.ref d), .val (.ref co), .val (.ref ec), oI 1] [(.int 2), (.ref ec)])) (fun t k => XS.iload X148.here hx rfl (hb hby at_283) rfl  k) ?_
    refine own_st (fr' := (mkF m 286 #[oI p0, oI p1, oI p2, oI 2, oI z121_0, oI 3, oI 2, .val (.ref ar), oI fi, oI se, .val (.ref d), .val (.ref co), .val (.ref ec), oI 1] [(.int 1), (.int 2), (.ref ec)])) (fun t k => XS.iconst X148.here hx rfl (hb hby at_285) k) ?_
    refine own_st (fr' := (mkF m 287 #[oI p0, oI p1, oI p2, oI 2, oI z121_0, oI 3, oI 2, .val (.ref ar), oI fi, oI se, .val (.ref d), .val (.ref co), .val (.ref ec), oI 1] [(.int 1), (.ref ec)])) (fun t k => XS.isub X148.here hx rfl (hb hby at_286) rfl k) ?_
    refine own_baload (j := (1 : Int32)) X148 hx hZ eq148 VE (by decide) (by decide) (v := (.int 3)) (hv1) (hb hby at_287) ?_
    refine own_st (fr' := (mkF m 290 #[oI p0, oI p1, oI p2, oI 2, oI z121_0, oI 3, oI 2, .val (.ref ar), oI fi, oI se, .val (.ref d), .val (.ref co), .val (.ref ec), oI 1] [(.ref ar), (.int 3)])) (fun t k => XS.aload X148.here hx rfl (hb hby at_288) rfl rfl k) ?_
    refine own_st (fr' := (mkF m 292 #[oI p0, oI p1, oI p2, oI 2, oI z121_0, oI 3, oI 2, .val (.ref ar), oI fi, oI se, .val (.ref d), .val (.ref co), .val (.ref ec), oI 1] [(.int 2), (.ref ar), (.int 3)])) (fun t k => XS.iload X148.here hx rfl (hb hby at_290) rfl  k) ?_
    refine own_st (fr' := (mkF m 293 #[oI p0, oI p1, oI p2, oI 2, oI z121_0, oI 3, oI 2, .val (.ref ar), oI fi, oI se, .val (.ref d), .val (.ref co), .val (.ref ec), oI 1] [(.int 1), (.int 2), (.ref ar), (.int 3)])) (fun t k => XS.iconst X148.here hx rfl (hb hby at_292) k) ?_
    refine own_st (fr' := (mkF m 294 #[oI p0, oI p1, oI p2, oI 2, oI z121_0, oI 3, oI 2, .val (.ref ar), oI fi, oI se, .val (.ref d), .val (.ref co), .val (.ref ec), oI 1] [(.int 1), (.ref ar), (.int 3)])) (fun t k => XS.isub X148.here hx rfl (hb hby at_293) rfl k) ?_
    refine own_baload (j := (1 : Int32)) X148 hx hZ eq148 (((VF.keep K145 nin0).keep K146 nin0).keep K147 nin0) (by decide) (by decide) (v := (.int 3)) (hv1) (hb hby at_294) ?_
    refine own_st (fr' := (mkF m 298 #[oI p0, oI p1, oI p2, oI 2, oI z121_0, oI 3, oI 2, .val (.ref ar), oI fi, oI se, .val (.ref d), .val (.ref co), .val (.ref ec), oI 1] [])) (fun t k => XS.icmpNo X148.here hx rfl (hb hby at_295) rfl (own_teq (x := (3 : Int32)) (y := (3 : Int32)) (show 3 = 3 from by decide)).2 k) ?_
    refine own_st (fr' := (mkF m 299 #[oI p0, oI p1, oI p2, oI 2, oI z121_0, oI 3, oI 2, .val (.ref ar), oI fi, oI se, .val (.ref d), .val (.ref co), .val (.ref ec), oI 1] [(.int 1)])) (fun t k => XS.iconst X148.here hx rfl (hb hby at_298) k) ?_
    refine own_st (fr' := (mkF m 303 #[oI p0, oI p1, oI p2, oI 2, oI z121_0, oI 3, oI 2, .val (.ref ar), oI fi, oI se, .val (.ref d), .val (.ref co), .val (.ref ec), oI 1] [(.int 1)])) (fun t k => XS.goto X148.here hx rfl (pc0 := 299) (pc' := 303) rfl (hb hby at_299) (by decide) (by decide) k) ?_
    refine own_st (fr' := (mkF m 305 #[oI p0, oI p1, oI p2, oI 2, oI z121_0, oI 3, oI 2, .val (.ref ar), oI fi, oI se, .val (.ref d), .val (.ref co), .val (.ref ec), oI 1] [])) (fun t k => XS.istore X148.here hx rfl (hb hby at_303) rfl  (l' := #[oI p0, oI p1, oI p2, oI 2, oI z121_0, oI 3, oI 2, .val (.ref ar), oI fi, oI se, .val (.ref d), .val (.ref co), .val (.ref ec), oI 1]) rfl k) ?_
    refine own_st (fr' := (mkF m 307 #[oI p0, oI p1, oI p2, oI 2, oI z121_0, oI 3, oI 2, .val (.ref ar), oI fi, oI se, .val (.ref d), .val (.ref co), .val (.ref ec), oI 1] [(.int 1)])) (fun t k => XS.iload X148.here hx rfl (hb hby at_305) rfl  k) ?_
    refine own_st (fr' := (mkF m 310 #[oI p0, oI p1, oI p2, oI 2, oI z121_0, oI 3, oI 2, .val (.ref ar), oI fi, oI se, .val (.ref d), .val (.ref co), .val (.ref ec), oI 1] [])) (fun t k => XS.ifNo X148.here hx rfl (hb hby at_307) rfl ((if0 _ _).trans (own_feq (x := (1 : Int32)) (y := (0 : Int32)) (show ¬ 1 = 0 from by decide)).1) k) ?_
    refine own_st (fr' := (mkF m 312 #[oI p0, oI p1, oI p2, oI 2, oI z121_0, oI 3, oI 2, .val (.ref ar), oI fi, oI se, .val (.ref d), .val (.ref co), .val (.ref ec), oI 1] [(.int 3)])) (fun t k => XS.iload X148.here hx rfl (hb hby at_310) rfl  k) ?_
    refine own_st (fr' := (mkF m 313 #[oI p0, oI p1, oI p2, oI 2, oI z121_0, oI 3, oI 2, .val (.ref ar), oI fi, oI se, .val (.ref d), .val (.ref co), .val (.ref ec), oI 1] [(.int 1), (.int 3)])) (fun t k => XS.iconst X148.here hx rfl (hb hby at_312) k) ?_
    refine own_st (fr' := (mkF m 316 #[oI p0, oI p1, oI p2, oI 2, oI z121_0, oI 3, oI 2, .val (.ref ar), oI fi, oI se, .val (.ref d), .val (.ref co), .val (.ref ec), oI 1] [])) (fun t k => XS.icmpNo X148.here hx rfl (hb hby at_313) rfl (own_flt (x := (3 : Int32)) (y := (1 : Int32)) (show ¬ 3 < 1 from by decide)).1 k) ?_
    refine own_st (fr' := (mkF m 318 #[oI p0, oI p1, oI p2, oI 2, oI z121_0, oI 3, oI 2, .val (.ref ar), oI fi, oI se, .val (.ref d), .val (.ref co), .val (.ref ec), oI 1] [(.ref co)])) (fun t k => XS.aload X148.here hx rfl (hb hby at_316) rfl rfl k) ?_
    refine own_st (fr' := (mkF m 319 #[oI p0, oI p1, oI p2, oI 2, oI z121_0, oI 3, oI 2, .val (.ref ar), oI fi, oI se, .val (.ref d), .val (.ref co), .val (.ref ec), oI 1] [(.int 0), (.ref co)])) (fun t k => XS.iconst X148.here hx rfl (hb hby at_318) k) ?_
    refine own_baload (j := (0 : Int32)) X148 hx hZ eq148 (VC.keep K147 nin0) (by decide) (by decide) (v := (.int fi)) ((hgc 0 (by decide)).trans hv2) (hb hby at_319) ?_
    refine own_st (fr' := (mkF m 322 #[oI p0, oI p1, oI p2, oI 2, oI z121_0, oI 3, oI 2, .val (.ref ar), oI fi, oI se, .val (.ref d), .val (.ref co), .val (.ref ec), oI 1] [(.int fi), (.int fi)])) (fun t k => XS.iload X148.here hx rfl (hb hby at_320) rfl  k) ?_
    refine own_st (fr' := (mkF m 325 #[oI p0, oI p1, oI p2, oI 2, oI z121_0, oI 3, oI 2, .val (.ref ar), oI fi, oI se, .val (.ref d), .val (.ref co), .val (.ref ec), oI 1] [])) (fun t k => XS.icmpNo X148.here hx rfl (hb hby at_322) rfl (own_teq (x := fi) (y := fi) (show fi.toInt = fi.toInt from rfl)).2 k) ?_
    refine own_st (fr' := (mkF m 327 #[oI p0, oI p1, oI p2, oI 2, oI z121_0, oI 3, oI 2, .val (.ref ar), oI fi, oI se, .val (.ref d), .val (.ref co), .val (.ref ec), oI 1] [(.ref ec)])) (fun t k => XS.aload X148.here hx rfl (hb hby at_325) rfl rfl k) ?_
    refine own_st (fr' := (mkF m 329 #[oI p0, oI p1, oI p2, oI 2, oI z121_0, oI 3, oI 2, .val (.ref ar), oI fi, oI se, .val (.ref d), .val (.ref co), .val (.ref ec), oI 1] [(.int 2), (.ref ec)])) (fun t k => XS.iload X148.here hx rfl (hb hby at_327) rfl  k) ?_
    refine own_baload (j := (2 : Int32)) X148 hx hZ eq148 VE (by decide) (by decide) (v := (.int fi)) (hv2) (hb hby at_329) ?_
    refine own_st (fr' := (mkF m 332 #[oI p0, oI p1, oI p2, oI 2, oI z121_0, oI 3, oI 2, .val (.ref ar), oI fi, oI se, .val (.ref d), .val (.ref co), .val (.ref ec), oI 1] [(.int fi), (.int fi)])) (fun t k => XS.iload X148.here hx rfl (hb hby at_330) rfl  k) ?_
    refine own_st (fr' := (mkF m 335 #[oI p0, oI p1, oI p2, oI 2, oI z121_0, oI 3, oI 2, .val (.ref ar), oI fi, oI se, .val (.ref d), .val (.ref co), .val (.ref ec), oI 1] [])) (fun t k => XS.icmpNo X148.here hx rfl (hb hby at_332) rfl (own_teq (x := fi) (y := fi) (show fi.toInt = fi.toInt from rfl)).2 k) ?_
    refine own_st (fr' := (mkF m 336 #[oI p0, oI p1, oI p2, oI 2, oI z121_0, oI 3, oI 2, .val (.ref ar), oI fi, oI se, .val (.ref d), .val (.ref co), .val (.ref ec), oI 1] [(.int 1)])) (fun t k => XS.iconst X148.here hx rfl (hb hby at_335) k) ?_
    refine own_st (fr' := (mkF m 340 #[oI p0, oI p1, oI p2, oI 2, oI z121_0, oI 3, oI 2, .val (.ref ar), oI fi, oI se, .val (.ref d), .val (.ref co), .val (.ref ec), oI 1] [(.int 1)])) (fun t k => XS.goto X148.here hx rfl (pc0 := 336) (pc' := 340) rfl (hb hby at_336) (by decide) (by decide) k) ?_
    refine own_st (fr' := (mkF m 342 #[oI p0, oI p1, oI p2, oI 2, oI z121_0, oI 3, oI 2, .val (.ref ar), oI fi, oI se, .val (.ref d), .val (.ref co), .val (.ref ec), oI 1] [])) (fun t k => XS.istore X148.here hx rfl (hb hby at_340) rfl  (l' := #[oI p0, oI p1, oI p2, oI 2, oI z121_0, oI 3, oI 2, .val (.ref ar), oI fi, oI se, .val (.ref d), .val (.ref co), .val (.ref ec), oI 1]) rfl k) ?_
    refine own_st (fr' := (mkF m 344 #[oI p0, oI p1, oI p2, oI 2, oI z121_0, oI 3, oI 2, .val (.ref ar), oI fi, oI se, .val (.ref d), .val (.ref co), .val (.ref ec), oI 1] [(.int 1)])) (fun t k => XS.iload X148.here hx rfl (hb hby at_342) rfl  k) ?_
    refine own_st (fr' := (mkF m 347 #[oI p0, oI p1, oI p2, oI 2, oI z121_0, oI 3, oI 2, .val (.ref ar), oI fi, oI se, .val (.ref d), .val (.ref co), .val (.ref ec), oI 1] [])) (fun t k => XS.ifNo X148.here hx rfl (hb hby at_344) rfl ((if0 _ _).trans (own_feq (x := (1 : Int32)) (y := (0 : Int32)) (show ¬ 1 = 0 from by decide)).1) k) ?_
    refine own_st (fr' := (mkF m 349 #[oI p0, oI p1, oI p2, oI 2, oI z121_0, oI 3, oI 2, .val (.ref ar), oI fi, oI se, .val (.ref d), .val (.ref co), .val (.ref ec), oI 1] [(.int 3)])) (fun t k => XS.iload X148.here hx rfl (hb hby at_347) rfl  k) ?_
    refine own_st (fr' := (mkF m 350 #[oI p0, oI p1, oI p2, oI 2, oI z121_0, oI 3, oI 2, .val (.ref ar), oI fi, oI se, .val (.ref d), .val (.ref co), .val (.ref ec), oI 1] [(.int 2), (.int 3)])) (fun t k => XS.iconst X148.here hx rfl (hb hby at_349) k) ?_
    refine own_st (fr' := (mkF m 353 #[oI p0, oI p1, oI p2, oI 2, oI z121_0, oI 3, oI 2, .val (.ref ar), oI fi, oI se, .val (.ref d), .val (.ref co), .val (.ref ec), oI 1] [])) (fun t k => XS.icmpNo X148.here hx rfl (hb hby at_350) rfl (own_flt (x := (3 : Int32)) (y := (2 : Int32)) (show ¬ 3 < 2 from by decide)).1 k) ?_
    refine own_st (fr' := (mkF m 355 #[oI p0, oI p1, oI p2, oI 2, oI z121_0, oI 3, oI 2, .val (.ref ar), oI fi, oI se, .val (.ref d), .val (.ref co), .val (.ref ec), oI 1] [(.ref co)])) (fun t k => XS.aload X148.here hx rfl (hb hby at_353) rfl rfl k) ?_
    refine own_st (fr' := (mkF m 357 #[oI p0, oI p1, oI p2, oI 2, oI z121_0, oI 3, oI 2, .val (.ref ar), oI fi, oI se, .val (.ref d), .val (.ref co), .val (.ref ec), oI 1] [(.int 3), (.ref co)])) (fun t k => XS.iload X148.here hx rfl (hb hby at_355) rfl  k) ?_
    refine own_st (fr' := (mkF m 358 #[oI p0, oI p1, oI p2, oI 2, oI z121_0, oI 3, oI 2, .val (.ref ar), oI fi, oI se, .val (.ref d), .val (.ref co), .val (.ref ec), oI 1] [(.int 1), (.int 3), (.ref co)])) (fun t k => XS.iconst X148.here hx rfl (hb hby at_357) k) ?_
    refine own_st (fr' := (mkF m 359 #[oI p0, oI p1, oI p2, oI 2, oI z121_0, oI 3, oI 2, .val (.ref ar), oI fi, oI se, .val (.ref d), .val (.ref co), .val (.ref ec), oI 1] [(.int 2), (.ref co)])) (fun t k => XS.isub X148.here hx rfl (hb hby at_358) rfl k) ?_
    refine own_baload (j := (2 : Int32)) X148 hx hZ eq148 (VC.keep K147 nin0) (by decide) (by decide) (v := (.int se)) ((hgc 2 (by decide)).trans hv4) (hb hby at_359) ?_
    refine own_st (fr' := (mkF m 362 #[oI p0, oI p1, oI p2, oI 2, oI z121_0, oI 3, oI 2, .val (.ref ar), oI fi, oI se, .val (.ref d), .val (.ref co), .val (.ref ec), oI 1] [(.int se), (.int se)])) (fun t k => XS.iload X148.here hx rfl (hb hby at_360) rfl  k) ?_
    refine own_st (fr' := (mkF m 365 #[oI p0, oI p1, oI p2, oI 2, oI z121_0, oI 3, oI 2, .val (.ref ar), oI fi, oI se, .val (.ref d), .val (.ref co), .val (.ref ec), oI 1] [])) (fun t k => XS.icmpNo X148.here hx rfl (hb hby at_362) rfl (own_teq (x := se) (y := se) (show se.toInt = se.toInt from rfl)).2 k) ?_
    refine own_st (fr' := (mkF m 367 #[oI p0, oI p1, oI p2, oI 2, oI z121_0, oI 3, oI 2, .val (.ref ar), oI fi, oI se, .val (.ref d), .val (.ref co), .val (.ref ec), oI 1] [(.ref ec)])) (fun t k => XS.aload X148.here hx rfl (hb hby at_365) rfl rfl k) ?_
    refine own_st (fr' := (mkF m 369 #[oI p0, oI p1, oI p2, oI 2, oI z121_0, oI 3, oI 2, .val (.ref ar), oI fi, oI se, .val (.ref d), .val (.ref co), .val (.ref ec), oI 1] [(.ref ar), (.ref ec)])) (fun t k => XS.aload X148.here hx rfl (hb hby at_367) rfl rfl k) ?_
    refine own_alen X148 hx hZ eq148 (((VF.keep K145 nin0).keep K146 nin0).keep K147 nin0) (hb hby at_369) ?_
    refine own_st (fr' := (mkF m 371 #[oI p0, oI p1, oI p2, oI 2, oI z121_0, oI 3, oI 2, .val (.ref ar), oI fi, oI se, .val (.ref d), .val (.ref co), .val (.ref ec), oI 1] [(.int 1), (.int 5), (.ref ec)])) (fun t k => XS.iconst X148.here hx rfl (hb hby at_370) k) ?_
    refine own_st (fr' := (mkF m 372 #[oI p0, oI p1, oI p2, oI 2, oI z121_0, oI 3, oI 2, .val (.ref ar), oI fi, oI se, .val (.ref d), .val (.ref co), .val (.ref ec), oI 1] [(.int 4), (.ref ec)])) (fun t k => XS.isub X148.here hx rfl (hb hby at_371) rfl k) ?_
    refine own_baload (j := (4 : Int32)) X148 hx hZ eq148 VE (by decide) (by decide) (v := (.int se)) (hv4) (hb hby at_372) ?_
    refine own_st (fr' := (mkF m 375 #[oI p0, oI p1, oI p2, oI 2, oI z121_0, oI 3, oI 2, .val (.ref ar), oI fi, oI se, .val (.ref d), .val (.ref co), .val (.ref ec), oI 1] [(.int se), (.int se)])) (fun t k => XS.iload X148.here hx rfl (hb hby at_373) rfl  k) ?_
    refine own_st (fr' := (mkF m 378 #[oI p0, oI p1, oI p2, oI 2, oI z121_0, oI 3, oI 2, .val (.ref ar), oI fi, oI se, .val (.ref d), .val (.ref co), .val (.ref ec), oI 1] [])) (fun t k => XS.icmpNo X148.here hx rfl (hb hby at_375) rfl (own_teq (x := se) (y := se) (show se.toInt = se.toInt from rfl)).2 k) ?_
    refine own_st (fr' := (mkF m 379 #[oI p0, oI p1, oI p2, oI 2, oI z121_0, oI 3, oI 2, .val (.ref ar), oI fi, oI se, .val (.ref d), .val (.ref co), .val (.ref ec), oI 1] [(.int 1)])) (fun t k => XS.iconst X148.here hx rfl (hb hby at_378) k) ?_
    refine own_st (fr' := (mkF m 383 #[oI p0, oI p1, oI p2, oI 2, oI z121_0, oI 3, oI 2, .val (.ref ar), oI fi, oI se, .val (.ref d), .val (.ref co), .val (.ref ec), oI 1] [(.int 1)])) (fun t k => XS.goto X148.here hx rfl (pc0 := 379) (pc' := 383) rfl (hb hby at_379) (by decide) (by decide) k) ?_
    refine own_st (fr' := (mkF m 385 #[oI p0, oI p1, oI p2, oI 2, oI z121_0, oI 3, oI 2, .val (.ref ar), oI fi, oI se, .val (.ref d), .val (.ref co), .val (.ref ec), oI 1] [])) (fun t k => XS.istore X148.here hx rfl (hb hby at_383) rfl  (l' := #[oI p0, oI p1, oI p2, oI 2, oI z121_0, oI 3, oI 2, .val (.ref ar), oI fi, oI se, .val (.ref d), .val (.ref co), .val (.ref ec), oI 1]) rfl k) ?_
    refine own_st (fr' := (mkF m 387 #[oI p0, oI p1, oI p2, oI 2, oI z121_0, oI 3, oI 2, .val (.ref ar), oI fi, oI se, .val (.ref d), .val (.ref co), .val (.ref ec), oI 1] [(.int 1)])) (fun t k => XS.iload X148.here hx rfl (hb hby at_385) rfl  k) ?_
    refine own_st (fr' := (mkF m 390 #[oI p0, oI p1, oI p2, oI 2, oI z121_0, oI 3, oI 2, .val (.ref ar), oI fi, oI se, .val (.ref d), .val (.ref co), .val (.ref ec), oI 1] [])) (fun t k => XS.ifNo X148.here hx rfl (hb hby at_387) rfl ((if0 _ _).trans (own_feq (x := (1 : Int32)) (y := (0 : Int32)) (show ¬ 1 = 0 from by decide)).1) k) ?_
    refine own_st (fr' := (mkF m 392 #[oI p0, oI p1, oI p2, oI 2, oI z121_0, oI 3, oI 2, .val (.ref ar), oI fi, oI se, .val (.ref d), .val (.ref co), .val (.ref ec), oI 1] [(.int 3)])) (fun t k => XS.iload X148.here hx rfl (hb hby at_390) rfl  k) ?_
    refine own_st (fr' := (mkF m 393 #[oI p0, oI p1, oI p2, oI 2, oI z121_0, oI 3, oI 2, .val (.ref ar), oI fi, oI se, .val (.ref d), .val (.ref co), .val (.ref ec), oI 1] [(.int 3), (.int 3)])) (fun t k => XS.iconst X148.here hx rfl (hb hby at_392) k) ?_
    refine own_st (fr' := (mkF m 396 #[oI p0, oI p1, oI p2, oI 2, oI z121_0, oI 3, oI 2, .val (.ref ar), oI fi, oI se, .val (.ref d), .val (.ref co), .val (.ref ec), oI 1] [])) (fun t k => XS.icmpNo X148.here hx rfl (hb hby at_393) rfl (own_flt (x := (3 : Int32)) (y := (3 : Int32)) (show ¬ 3 < 3 from by decide)).1 k) ?_
    refine own_st (fr' := (mkF m 398 #[oI p0, oI p1, oI p2, oI 2, oI z121_0, oI 3, oI 2, .val (.ref ar), oI fi, oI se, .val (.ref d), .val (.ref co), .val (.ref ec), oI 1] [(.ref co)])) (fun t k => XS.aload X148.here hx rfl (hb hby at_396) rfl rfl k) ?_
    refine own_st (fr' := (mkF m 399 #[oI p0, oI p1, oI p2, oI 2, oI z121_0, oI 3, oI 2, .val (.ref ar), oI fi, oI se, .val (.ref d), .val (.ref co), .val (.ref ec), oI 1] [(.int 1), (.ref co)])) (fun t k => XS.iconst X148.here hx rfl (hb hby at_398) k) ?_
    refine own_baload (j := (1 : Int32)) X148 hx hZ eq148 (VC.keep K147 nin0) (by decide) (by decide) (v := (.int 0)) ((hgc 1 (by decide)).trans hvz) (hb hby at_399) ?_
    refine own_st (fr' := (mkF m 403 #[oI p0, oI p1, oI p2, oI 2, oI z121_0, oI 3, oI 2, .val (.ref ar), oI fi, oI se, .val (.ref d), .val (.ref co), .val (.ref ec), oI 1] [])) (fun t k => XS.ifNo X148.here hx rfl (hb hby at_400) rfl ((if0 _ _).trans (own_teq (x := (0 : Int32)) (y := (0 : Int32)) (show 0 = 0 from by decide)).2) k) ?_
    refine own_st (fr' := (mkF m 405 #[oI p0, oI p1, oI p2, oI 2, oI z121_0, oI 3, oI 2, .val (.ref ar), oI fi, oI se, .val (.ref d), .val (.ref co), .val (.ref ec), oI 1] [(.ref ec)])) (fun t k => XS.aload X148.here hx rfl (hb hby at_403) rfl rfl k) ?_
    refine own_st (fr' := (mkF m 407 #[oI p0, oI p1, oI p2, oI 2, oI z121_0, oI 3, oI 2, .val (.ref ar), oI fi, oI se, .val (.ref d), .val (.ref co), .val (.ref ec), oI 1] [(.int 2), (.ref ec)])) (fun t k => XS.iload X148.here hx rfl (hb hby at_405) rfl  k) ?_
    refine own_st (fr' := (mkF m 408 #[oI p0, oI p1, oI p2, oI 2, oI z121_0, oI 3, oI 2, .val (.ref ar), oI fi, oI se, .val (.ref d), .val (.ref co), .val (.ref ec), oI 1] [(.int 1), (.int 2), (.ref ec)])) (fun t k => XS.iconst X148.here hx rfl (hb hby at_407) k) ?_
    refine own_st (fr' := (mkF m 409 #[oI p0, oI p1, oI p2, oI 2, oI z121_0, oI 3, oI 2, .val (.ref ar), oI fi, oI se, .val (.ref d), .val (.ref co), .val (.ref ec), oI 1] [(.int 3), (.ref ec)])) (fun t k => XS.iadd X148.here hx rfl (hb hby at_408) rfl k) ?_
    refine own_baload (j := (3 : Int32)) X148 hx hZ eq148 VE (by decide) (by decide) (v := (.int 0)) (hvz) (hb hby at_409) ?_
    refine own_st (fr' := (mkF m 413 #[oI p0, oI p1, oI p2, oI 2, oI z121_0, oI 3, oI 2, .val (.ref ar), oI fi, oI se, .val (.ref d), .val (.ref co), .val (.ref ec), oI 1] [])) (fun t k => XS.ifNo X148.here hx rfl (hb hby at_410) rfl ((if0 _ _).trans (own_teq (x := (0 : Int32)) (y := (0 : Int32)) (show 0 = 0 from by decide)).2) k) ?_
    refine own_st (fr' := (mkF m 414 #[oI p0, oI p1, oI p2, oI 2, oI z121_0, oI 3, oI 2, .val (.ref ar), oI fi, oI se, .val (.ref d), .val (.ref co), .val (.ref ec), oI 1] [(.int 1)])) (fun t k => XS.iconst X148.here hx rfl (hb hby at_413) k) ?_
    refine own_st (fr' := (mkF m 418 #[oI p0, oI p1, oI p2, oI 2, oI z121_0, oI 3, oI 2, .val (.ref ar), oI fi, oI se, .val (.ref d), .val (.ref co), .val (.ref ec), oI 1] [(.int 1)])) (fun t k => XS.goto X148.here hx rfl (pc0 := 414) (pc' := 418) rfl (hb hby at_414) (by decide) (by decide) k) ?_
    refine own_st (fr' := (mkF m 420 #[oI p0, oI p1, oI p2, oI 2, oI z121_0, oI 3, oI 2, .val (.ref ar), oI fi, oI se, .val (.ref d), .val (.ref co), .val (.ref ec), oI 1] [])) (fun t k => XS.istore X148.here hx rfl (hb hby at_418) rfl  (l' := #[oI p0, oI p1, oI p2, oI 2, oI z121_0, oI 3, oI 2, .val (.ref ar), oI fi, oI se, .val (.ref d), .val (.ref co), .val (.ref ec), oI 1]) rfl k) ?_
    refine own_st (fr' := (mkF m 422 #[oI p0, oI p1, oI p2, oI 2, oI z121_0, oI 3, oI 2, .val (.ref ar), oI fi, oI se, .val (.ref d), .val (.ref co), .val (.ref ec), oI 1] [(.int 1)])) (fun t k => XS.iload X148.here hx rfl (hb hby at_420) rfl  k) ?_
    exact own_retZ X148 hx hlk hret (Or.inr rfl) (hb hby at_422) (by decide) (by decide) (⟨rfl, N148⟩)
  · obtain rfl : fo = (3 : Int32) := Int32.toInt_inj.mp hfo
    refine own_st (fr' := (mkF m 29 #[oI p0, oI p1, oI p2, oI 3, oI z121_0, .unset, .unset, .unset, .unset, .unset, .unset, .unset, .unset, .unset] [(.int 3)])) (fun t k => XS.iloadN X0.here hx rfl (hb hby at_28) rfl  k) ?_
    refine own_callS X0 hx hZ (y := (⟨"com/example/linkvouch/linkvouch/apk/DerParsePinLaw", "lengthOf", "(I)I"⟩ : MethodName)) hown (hw _ (List.mem_of_getElem? (i := 0) rfl)) (hw _ (List.mem_of_getElem? (i := 1) rfl)) (hw _ (List.mem_of_getElem? (i := 2) rfl)) (hw _ (List.mem_of_getElem? (i := 3) rfl)) (by decide) (argsL := [(.int 3)]) (rest := []) (W := 0) (rm_len3 l Z a0 hw []  h0 n0 Z0 ) e0 (by rw [hml]; rfl) (lenOf pd_5 rfl) rfl (Nat.le_of_eq rfl) (hb hby at_29) (by decide) (by decide) (by decide) (by decide) ?_
    intro v149 T149 L149 X149 hQ149
    obtain ⟨rfl, Nq149, eq149⟩ := hQ149
    have N149 := Fr.app N0 Nq149
    refine own_st (fr' := (mkF m 34 #[oI p0, oI p1, oI p2, oI 3, oI z121_0, oI 127, .unset, .unset, .unset, .unset, .unset, .unset, .unset, .unset] [])) (fun t k => XS.istore X149.here hx rfl (hb hby at_32) rfl  (l' := #[oI p0, oI p1, oI p2, oI 3, oI z121_0, oI 127, .unset, .unset, .unset, .unset, .unset, .unset, .unset, .unset]) rfl k) ?_
    refine own_st (fr' := (mkF m 35 #[oI p0, oI p1, oI p2, oI 3, oI z121_0, oI 127, .unset, .unset, .unset, .unset, .unset, .unset, .unset, .unset] [(.int 3)])) (fun t k => XS.iloadN X149.here hx rfl (hb hby at_34) rfl  k) ?_
    refine own_st (fr' := (mkF m 36 #[oI p0, oI p1, oI p2, oI 3, oI z121_0, oI 127, .unset, .unset, .unset, .unset, .unset, .unset, .unset, .unset] [(.int 4), (.int 3)])) (fun t k => XS.iconst X149.here hx rfl (hb hby at_35) k) ?_
    refine own_st (fr' := (mkF m 39 #[oI p0, oI p1, oI p2, oI 3, oI z121_0, oI 127, .unset, .unset, .unset, .unset, .unset, .unset, .unset, .unset] [])) (fun t k => XS.icmpNo X149.here hx rfl (hb hby at_36) rfl (own_tlt (x := (3 : Int32)) (y := (4 : Int32)) (show 3 < 4 from by decide)).2.1 k) ?_
    refine own_st (fr' := (mkF m 40 #[oI p0, oI p1, oI p2, oI 3, oI z121_0, oI 127, .unset, .unset, .unset, .unset, .unset, .unset, .unset, .unset] [(.int 2)])) (fun t k => XS.iconst X149.here hx rfl (hb hby at_39) k) ?_
    refine own_st (fr' := (mkF m 42 #[oI p0, oI p1, oI p2, oI 3, oI z121_0, oI 127, oI 2, .unset, .unset, .unset, .unset, .unset, .unset, .unset] [])) (fun t k => XS.istore X149.here hx rfl (hb hby at_40) rfl  (l' := #[oI p0, oI p1, oI p2, oI 3, oI z121_0, oI 127, oI 2, .unset, .unset, .unset, .unset, .unset, .unset, .unset]) rfl k) ?_
    refine own_st (fr' := (mkF m 60 #[oI p0, oI p1, oI p2, oI 3, oI z121_0, oI 127, oI 2, .unset, .unset, .unset, .unset, .unset, .unset, .unset] [])) (fun t k => XS.goto X149.here hx rfl (pc0 := 42) (pc' := 60) rfl (hb hby at_42) (by decide) (by decide) k) ?_
    refine own_st (fr' := (mkF m 61 #[oI p0, oI p1, oI p2, oI 3, oI z121_0, oI 127, oI 2, .unset, .unset, .unset, .unset, .unset, .unset, .unset] [(.int 3)])) (fun t k => XS.iloadN X149.here hx rfl (hb hby at_60) rfl  k) ?_
    refine own_callS X149 hx hZ (y := (⟨"com/example/linkvouch/linkvouch/apk/DerParsePinLaw", "alloc", "(I)[B"⟩ : MethodName)) hown (hw _ (List.mem_of_getElem? (i := 4) rfl)) (hw _ (List.mem_of_getElem? (i := 5) rfl)) (hw _ (List.mem_of_getElem? (i := 2) rfl)) (hw _ (List.mem_of_getElem? (i := 6) rfl)) (by decide) (argsL := [(.int 3)]) (rest := []) (W := 0) (rm_alloc3 l Z a0 hw []  h0 n0 Z0 ) eq149 (by rw [hml]; rfl) (lenOf pd_6 rfl) rfl (Nat.le_of_eq rfl) (hb hby at_61) (by decide) (by decide) (by decide) (by decide) ?_
    intro v150 T150 L150 X150 hQ150
    obtain ⟨⟨ar, rfl, har, ge_ar, VA, EA⟩, Nq150, K150⟩ := hQ150
    have N150 := Fr.app N149 Nq150
    refine own_st (fr' := (mkF m 66 #[oI p0, oI p1, oI p2, oI 3, oI z121_0, oI 127, oI 2, .val (.ref ar), .unset, .unset, .unset, .unset, .unset, .unset] [])) (fun t k => XS.astore X150.here hx rfl (hb hby at_64) rfl rfl (l' := #[oI p0, oI p1, oI p2, oI 3, oI z121_0, oI 127, oI 2, .val (.ref ar), .unset, .unset, .unset, .unset, .unset, .unset]) rfl k) ?_
    refine own_st (fr' := (mkF m 68 #[oI p0, oI p1, oI p2, oI 3, oI z121_0, oI 127, oI 2, .val (.ref ar), .unset, .unset, .unset, .unset, .unset, .unset] [(.ref ar)])) (fun t k => XS.aload X150.here hx rfl (hb hby at_66) rfl rfl k) ?_
    refine own_st (fr' := (mkF m 69 #[oI p0, oI p1, oI p2, oI 3, oI z121_0, oI 127, oI 2, .val (.ref ar), .unset, .unset, .unset, .unset, .unset, .unset] [(.int 0), (.ref ar)])) (fun t k => XS.iconst X150.here hx rfl (hb hby at_68) k) ?_
    refine own_st (fr' := (mkF m 71 #[oI p0, oI p1, oI p2, oI 3, oI z121_0, oI 127, oI 2, .val (.ref ar), .unset, .unset, .unset, .unset, .unset, .unset] [(.int z121_0), (.int 0), (.ref ar)])) (fun t k => XS.iload X150.here hx rfl (hb hby at_69) rfl  k) ?_
    refine own_st (fr' := (mkF m 72 #[oI p0, oI p1, oI p2, oI 3, oI z121_0, oI 127, oI 2, .val (.ref ar), .unset, .unset, .unset, .unset, .unset, .unset] [(.int (z121_0.toInt8.toInt32)), (.int 0), (.ref ar)])) (fun t k => XS.i2b X150.here hx rfl (hb hby at_71) rfl k) ?_
    have qb := c_i2b z121_0
    generalize hTB : (z121_0.toInt8.toInt32) = tb at qb ⊢
    have hnb : nar .byte tb = tb := own_narb qb.2.1 (by omega)
    refine own_bastore X150 hx hZ rfl VA (by decide) (by decide) (hb hby at_72) ?_
    intro T151 h151 X151 e151 W151 V151
    have N151 := Fr.snoc X151 N150 ge_ar
    refine own_st (fr' := (mkF m 74 #[oI p0, oI p1, oI p2, oI 3, oI z121_0, oI 127, oI 2, .val (.ref ar), .unset, .unset, .unset, .unset, .unset, .unset] [(.int 3)])) (fun t k => XS.iloadN X151.here hx rfl (hb hby at_73) rfl  k) ?_
    refine own_st (fr' := (mkF m 75 #[oI p0, oI p1, oI p2, oI 3, oI z121_0, oI 127, oI 2, .val (.ref ar), .unset, .unset, .unset, .unset, .unset, .unset] [(.int 4), (.int 3)])) (fun t k => XS.iconst X151.here hx rfl (hb hby at_74) k) ?_
    refine own_st (fr' := (mkF m 78 #[oI p0, oI p1, oI p2, oI 3, oI z121_0, oI 127, oI 2, .val (.ref ar), .unset, .unset, .unset, .unset, .unset, .unset] [])) (fun t k => XS.icmpNo X151.here hx rfl (hb hby at_75) rfl (own_tlt (x := (3 : Int32)) (y := (4 : Int32)) (show 3 < 4 from by decide)).2.1 k) ?_
    refine own_st (fr' := (mkF m 80 #[oI p0, oI p1, oI p2, oI 3, oI z121_0, oI 127, oI 2, .val (.ref ar), .unset, .unset, .unset, .unset, .unset, .unset] [(.ref ar)])) (fun t k => XS.aload X151.here hx rfl (hb hby at_78) rfl rfl k) ?_
    refine own_st (fr' := (mkF m 81 #[oI p0, oI p1, oI p2, oI 3, oI z121_0, oI 127, oI 2, .val (.ref ar), .unset, .unset, .unset, .unset, .unset, .unset] [(.int 1), (.ref ar)])) (fun t k => XS.iconst X151.here hx rfl (hb hby at_80) k) ?_
    refine own_st (fr' := (mkF m 83 #[oI p0, oI p1, oI p2, oI 3, oI z121_0, oI 127, oI 2, .val (.ref ar), .unset, .unset, .unset, .unset, .unset, .unset] [(.int 127), (.int 1), (.ref ar)])) (fun t k => XS.iload X151.here hx rfl (hb hby at_81) rfl  k) ?_
    refine own_st (fr' := (mkF m 84 #[oI p0, oI p1, oI p2, oI 3, oI z121_0, oI 127, oI 2, .val (.ref ar), .unset, .unset, .unset, .unset, .unset, .unset] [(.int 127), (.int 1), (.ref ar)])) (fun t k => XS.i2b X151.here hx rfl (hb hby at_83) rfl k) ?_
    refine own_bastore X151 hx hZ e151 V151 (by decide) (by decide) (hb hby at_84) ?_
    intro T152 h152 X152 e152 W152 V152
    have N152 := Fr.snoc X152 N151 ge_ar
    refine own_st (fr' := (mkF m 133 #[oI p0, oI p1, oI p2, oI 3, oI z121_0, oI 127, oI 2, .val (.ref ar), .unset, .unset, .unset, .unset, .unset, .unset] [])) (fun t k => XS.goto X152.here hx rfl (pc0 := 85) (pc' := 133) rfl (hb hby at_85) (by decide) (by decide) k) ?_
    refine own_st (fr' := (mkF m 134 #[oI p0, oI p1, oI p2, oI 3, oI z121_0, oI 127, oI 2, .val (.ref ar), .unset, .unset, .unset, .unset, .unset, .unset] [(.int p2)])) (fun t k => XS.iloadN X152.here hx rfl (hb hby at_133) rfl  k) ?_
    refine own_st (fr' := (mkF m 135 #[oI p0, oI p1, oI p2, oI 3, oI z121_0, oI 127, oI 2, .val (.ref ar), .unset, .unset, .unset, .unset, .unset, .unset] [(.int (p2.toInt8.toInt32))])) (fun t k => XS.i2b X152.here hx rfl (hb hby at_134) rfl k) ?_
    refine own_st (fr' := (mkF m 137 #[oI p0, oI p1, oI p2, oI 3, oI z121_0, oI 127, oI 2, .val (.ref ar), .val (.int (p2.toInt8.toInt32)), .unset, .unset, .unset, .unset, .unset] [])) (fun t k => XS.istore X152.here hx rfl (hb hby at_135) rfl  (l' := #[oI p0, oI p1, oI p2, oI 3, oI z121_0, oI 127, oI 2, .val (.ref ar), .val (.int (p2.toInt8.toInt32)), .unset, .unset, .unset, .unset, .unset]) rfl k) ?_
    have q1 := c_i2b p2
    generalize hFI : p2.toInt8.toInt32 = fi at q1 ⊢
    have hnf : nar .byte fi = fi := own_narb q1.2.1 (by omega)
    refine own_st (fr' := (mkF m 138 #[oI p0, oI p1, oI p2, oI 3, oI z121_0, oI 127, oI 2, .val (.ref ar), oI fi, .unset, .unset, .unset, .unset, .unset] [(.int p2)])) (fun t k => XS.iloadN X152.here hx rfl (hb hby at_137) rfl  k) ?_
    refine own_st (fr' := (mkF m 140 #[oI p0, oI p1, oI p2, oI 3, oI z121_0, oI 127, oI 2, .val (.ref ar), oI fi, .unset, .unset, .unset, .unset, .unset] [(.int 8), (.int p2)])) (fun t k => XS.bipush X152.here hx rfl (hb hby at_138) k) ?_
    refine own_st (fr' := (mkF m 141 #[oI p0, oI p1, oI p2, oI 3, oI z121_0, oI 127, oI 2, .val (.ref ar), oI fi, .unset, .unset, .unset, .unset, .unset] [(.int (p2 >>> ((8 : Int32) &&& 31)))])) (fun t k => XS.ishr X152.here hx rfl (hb hby at_140) rfl k) ?_
    refine own_st (fr' := (mkF m 142 #[oI p0, oI p1, oI p2, oI 3, oI z121_0, oI 127, oI 2, .val (.ref ar), oI fi, .unset, .unset, .unset, .unset, .unset] [(.int ((p2 >>> ((8 : Int32) &&& 31)).toInt8.toInt32))])) (fun t k => XS.i2b X152.here hx rfl (hb hby at_141) rfl k) ?_
    refine own_st (fr' := (mkF m 144 #[oI p0, oI p1, oI p2, oI 3, oI z121_0, oI 127, oI 2, .val (.ref ar), oI fi, .val (.int ((p2 >>> ((8 : Int32) &&& 31)).toInt8.toInt32)), .unset, .unset, .unset, .unset] [])) (fun t k => XS.istore X152.here hx rfl (hb hby at_142) rfl  (l' := #[oI p0, oI p1, oI p2, oI 3, oI z121_0, oI 127, oI 2, .val (.ref ar), oI fi, .val (.int ((p2 >>> ((8 : Int32) &&& 31)).toInt8.toInt32)), .unset, .unset, .unset, .unset]) rfl k) ?_
    have q2 := c_i2b (p2 >>> ((8 : Int32) &&& 31))
    generalize hSE : (p2 >>> ((8 : Int32) &&& 31)).toInt8.toInt32 = se at q2 ⊢
    have hns : nar .byte se = se := own_narb q2.2.1 (by omega)
    refine own_st (fr' := (mkF m 146 #[oI p0, oI p1, oI p2, oI 3, oI z121_0, oI 127, oI 2, .val (.ref ar), oI fi, oI se, .unset, .unset, .unset, .unset] [(.int 127)])) (fun t k => XS.iload X152.here hx rfl (hb hby at_144) rfl  k) ?_
    refine own_st (fr' := (mkF m 147 #[oI p0, oI p1, oI p2, oI 3, oI z121_0, oI 127, oI 2, .val (.ref ar), oI fi, oI se, .unset, .unset, .unset, .unset] [(.int 1), (.int 127)])) (fun t k => XS.iconst X152.here hx rfl (hb hby at_146) k) ?_
    refine own_st (fr' := (mkF m 150 #[oI p0, oI p1, oI p2, oI 3, oI z121_0, oI 127, oI 2, .val (.ref ar), oI fi, oI se, .unset, .unset, .unset, .unset] [])) (fun t k => XS.icmpNo X152.here hx rfl (hb hby at_147) rfl (own_flt (x := (127 : Int32)) (y := (1 : Int32)) (show ¬ 127 < 1 from by decide)).1 k) ?_
    refine own_st (fr' := (mkF m 152 #[oI p0, oI p1, oI p2, oI 3, oI z121_0, oI 127, oI 2, .val (.ref ar), oI fi, oI se, .unset, .unset, .unset, .unset] [(.ref ar)])) (fun t k => XS.aload X152.here hx rfl (hb hby at_150) rfl rfl k) ?_
    refine own_st (fr' := (mkF m 154 #[oI p0, oI p1, oI p2, oI 3, oI z121_0, oI 127, oI 2, .val (.ref ar), oI fi, oI se, .unset, .unset, .unset, .unset] [(.int 2), (.ref ar)])) (fun t k => XS.iload X152.here hx rfl (hb hby at_152) rfl  k) ?_
    refine own_st (fr' := (mkF m 156 #[oI p0, oI p1, oI p2, oI 3, oI z121_0, oI 127, oI 2, .val (.ref ar), oI fi, oI se, .unset, .unset, .unset, .unset] [(.int fi), (.int 2), (.ref ar)])) (fun t k => XS.iload X152.here hx rfl (hb hby at_154) rfl  k) ?_
    refine own_bastore X152 hx hZ e152 V152 (by decide) (by decide) (hb hby at_156) ?_
    intro T153 h153 X153 e153 W153 V153
    have N153 := Fr.snoc X153 N152 ge_ar
    refine own_st (fr' := (mkF m 159 #[oI p0, oI p1, oI p2, oI 3, oI z121_0, oI 127, oI 2, .val (.ref ar), oI fi, oI se, .unset, .unset, .unset, .unset] [(.int 127)])) (fun t k => XS.iload X153.here hx rfl (hb hby at_157) rfl  k) ?_
    refine own_st (fr' := (mkF m 160 #[oI p0, oI p1, oI p2, oI 3, oI z121_0, oI 127, oI 2, .val (.ref ar), oI fi, oI se, .unset, .unset, .unset, .unset] [(.int 2), (.int 127)])) (fun t k => XS.iconst X153.here hx rfl (hb hby at_159) k) ?_
    refine own_st (fr' := (mkF m 163 #[oI p0, oI p1, oI p2, oI 3, oI z121_0, oI 127, oI 2, .val (.ref ar), oI fi, oI se, .unset, .unset, .unset, .unset] [])) (fun t k => XS.icmpNo X153.here hx rfl (hb hby at_160) rfl (own_flt (x := (127 : Int32)) (y := (2 : Int32)) (show ¬ 127 < 2 from by decide)).1 k) ?_
    refine own_st (fr' := (mkF m 165 #[oI p0, oI p1, oI p2, oI 3, oI z121_0, oI 127, oI 2, .val (.ref ar), oI fi, oI se, .unset, .unset, .unset, .unset] [(.ref ar)])) (fun t k => XS.aload X153.here hx rfl (hb hby at_163) rfl rfl k) ?_
    refine own_st (fr' := (mkF m 167 #[oI p0, oI p1, oI p2, oI 3, oI z121_0, oI 127, oI 2, .val (.ref ar), oI fi, oI se, .unset, .unset, .unset, .unset] [(.int 2), (.ref ar)])) (fun t k => XS.iload X153.here hx rfl (hb hby at_165) rfl  k) ?_
    refine own_st (fr' := (mkF m 169 #[oI p0, oI p1, oI p2, oI 3, oI z121_0, oI 127, oI 2, .val (.ref ar), oI fi, oI se, .unset, .unset, .unset, .unset] [(.int 127), (.int 2), (.ref ar)])) (fun t k => XS.iload X153.here hx rfl (hb hby at_167) rfl  k) ?_
    refine own_st (fr' := (mkF m 170 #[oI p0, oI p1, oI p2, oI 3, oI z121_0, oI 127, oI 2, .val (.ref ar), oI fi, oI se, .unset, .unset, .unset, .unset] [(.int 129), (.ref ar)])) (fun t k => XS.iadd X153.here hx rfl (hb hby at_169) rfl k) ?_
    refine own_st (fr' := (mkF m 171 #[oI p0, oI p1, oI p2, oI 3, oI z121_0, oI 127, oI 2, .val (.ref ar), oI fi, oI se, .unset, .unset, .unset, .unset] [(.int 1), (.int 129), (.ref ar)])) (fun t k => XS.iconst X153.here hx rfl (hb hby at_170) k) ?_
    refine own_st (fr' := (mkF m 172 #[oI p0, oI p1, oI p2, oI 3, oI z121_0, oI 127, oI 2, .val (.ref ar), oI fi, oI se, .unset, .unset, .unset, .unset] [(.int 128), (.ref ar)])) (fun t k => XS.isub X153.here hx rfl (hb hby at_171) rfl k) ?_
    refine own_st (fr' := (mkF m 174 #[oI p0, oI p1, oI p2, oI 3, oI z121_0, oI 127, oI 2, .val (.ref ar), oI fi, oI se, .unset, .unset, .unset, .unset] [(.int se), (.int 128), (.ref ar)])) (fun t k => XS.iload X153.here hx rfl (hb hby at_172) rfl  k) ?_
    refine own_bastore X153 hx hZ e153 V153 (by decide) (by decide) (hb hby at_174) ?_
    intro T154 h154 X154 e154 W154 V154
    have N154 := Fr.snoc X154 N153 ge_ar
    obtain ⟨ff, VF, hv⟩ : ∃ ff : Nat → Value, own_A Z h154 ar .byte 129 ff ∧ (ff 0 = .int tb ∧ ff 1 = .int (127 : Int32) ∧ ff 2 = .int fi ∧ ff 128 = .int se ∧ ff 3 = .int 0) := ⟨_, V154, by show Value.int (nar .byte tb) = _; rw [hnb], rfl, by show Value.int (nar .byte fi) = _; rw [hnf], by show Value.int (nar .byte se) = _; rw [hns], rfl⟩
    obtain ⟨hv0, hv1, hv2, hv128, hvz⟩ := hv
    have hbk : tb &&& 255 = z121_0 := own_back z121_0 tb hz121.1 hz121.2.1 (by omega)
    refine own_st (fr' := (mkF m 177 #[oI p0, oI p1, oI p2, oI 3, oI z121_0, oI 127, oI 2, .val (.ref ar), oI fi, oI se, .unset, .unset, .unset, .unset] [(.ref ar)])) (fun t k => XS.aload X154.here hx rfl (hb hby at_175) rfl rfl k) ?_
    refine own_callS X154 hx hZ (y := (⟨"com/example/linkvouch/linkvouch/apk/Der", "parse", "([B)Lcom/example/linkvouch/linkvouch/apk/Der;"⟩ : MethodName)) hown (hw _ (List.mem_of_getElem? (i := 8) rfl)) (hw _ (List.mem_of_getElem? (i := 9) rfl)) (hw _ (List.mem_of_getElem? (i := 10) rfl)) (hw _ (List.mem_of_getElem? (i := 11) rfl)) (by decide) (argsL := [(.ref ar)]) (rest := []) (W := 0) (rm_parse3 l Z a0 hw [] ar tb ff h154 n0 (Nat.le_trans (Nat.le_trans (Nat.le_trans (Nat.le_trans (Nat.le_trans Z0 K150.1) (Nat.le_of_eq (Wr.size W151).symm)) (Nat.le_of_eq (Wr.size W152).symm)) (Nat.le_of_eq (Wr.size W153).symm)) (Nat.le_of_eq (Wr.size W154).symm)) VF hv0 hv1 (by rw [hbk]; exact hz121.2.2)) e154 (by rw [hml]; rfl) (lenOf pd_7 rfl) rfl (Nat.le_of_eq rfl) (hb hby at_177) (by decide) (by decide) (by decide) (by decide) ?_
    intro v155 T155 L155 X155 hQ155
    obtain ⟨⟨d, rfl, hd0, Ed, Fd0, Fd1, Fd2, Fd3, Fd4⟩, Nq155, K155⟩ := hQ155
    rw [hbk] at Fd1
    have N155 := Fr.app N154 Nq155
    refine own_st (fr' := (mkF m 182 #[oI p0, oI p1, oI p2, oI 3, oI z121_0, oI 127, oI 2, .val (.ref ar), oI fi, oI se, .val (.ref d), .unset, .unset, .unset] [])) (fun t k => XS.astore X155.here hx rfl (hb hby at_180) rfl rfl (l' := #[oI p0, oI p1, oI p2, oI 3, oI z121_0, oI 127, oI 2, .val (.ref ar), oI fi, oI se, .val (.ref d), .unset, .unset, .unset]) rfl k) ?_
    refine own_st (fr' := (mkF m 184 #[oI p0, oI p1, oI p2, oI 3, oI z121_0, oI 127, oI 2, .val (.ref ar), oI fi, oI se, .val (.ref d), .unset, .unset, .unset] [(.ref d)])) (fun t k => XS.aload X155.here hx rfl (hb hby at_182) rfl rfl k) ?_
    refine own_callV X155 hx hZ (y := (⟨"com/example/linkvouch/linkvouch/apk/Der", "content", "()[B"⟩ : MethodName)) (z := (⟨"com/example/linkvouch/linkvouch/apk/Der", "content", "()[B"⟩ : MethodName)) hown (hw _ (List.mem_of_getElem? (i := 33) rfl)) (hw _ (List.mem_of_getElem? (i := 34) rfl)) (notFace_of_selects (args := #[]) (mvT hZ (hw _ (List.mem_of_getElem? (i := 36) rfl)))) (hw _ (List.mem_of_getElem? (i := 36) rfl)) (hw _ (List.mem_of_getElem? (i := 35) rfl)) (hw _ (List.mem_of_getElem? (i := 10) rfl)) (hw _ (List.mem_of_getElem? (i := 37) rfl)) (by decide) (a := d) (argsL := []) (rest := []) (W := 0) (rm_cont3 l Z a0 hw [] d ar ff T155.heap n0 (Nat.le_trans (Nat.le_trans (Nat.le_trans (Nat.le_trans (Nat.le_trans (Nat.le_trans Z0 K150.1) (Nat.le_of_eq (Wr.size W151).symm)) (Nat.le_of_eq (Wr.size W152).symm)) (Nat.le_of_eq (Wr.size W153).symm)) (Nat.le_of_eq (Wr.size W154).symm)) K155.1) Fd0 (VF.keep K155 nin0) ((Exa.wr W154 (Exa.wr W153 (Exa.wr W152 (Exa.wr W151 EA)))).keep K155) Fd4 Fd3) rfl Ed (by rw [hml]; rfl) (lenOf pd_8 rfl) rfl (Nat.le_of_eq rfl) (hb hby at_184) (by decide) (by decide) (by decide) (by decide) ?_
    intro v156 T156 L156 X156 hQ156
    obtain ⟨⟨co, gc, rfl, hco, VC, hgc⟩, Nq156, K156⟩ := hQ156
    have N156 := Fr.app N155 Nq156
    refine own_st (fr' := (mkF m 189 #[oI p0, oI p1, oI p2, oI 3, oI z121_0, oI 127, oI 2, .val (.ref ar), oI fi, oI se, .val (.ref d), .val (.ref co), .unset, .unset] [])) (fun t k => XS.astore X156.here hx rfl (hb hby at_187) rfl rfl (l' := #[oI p0, oI p1, oI p2, oI 3, oI z121_0, oI 127, oI 2, .val (.ref ar), oI fi, oI se, .val (.ref d), .val (.ref co), .unset, .unset]) rfl k) ?_
    refine own_st (fr' := (mkF m 191 #[oI p0, oI p1, oI p2, oI 3, oI z121_0, oI 127, oI 2, .val (.ref ar), oI fi, oI se, .val (.ref d), .val (.ref co), .unset, .unset] [(.ref d)])) (fun t k => XS.aload X156.here hx rfl (hb hby at_189) rfl rfl k) ?_
    refine own_callV X156 hx hZ (y := (⟨"com/example/linkvouch/linkvouch/apk/Der", "encoded", "()[B"⟩ : MethodName)) (z := (⟨"com/example/linkvouch/linkvouch/apk/Der", "encoded", "()[B"⟩ : MethodName)) hown (hw _ (List.mem_of_getElem? (i := 56) rfl)) (hw _ (List.mem_of_getElem? (i := 57) rfl)) (notFace_of_selects (args := #[]) (mvT hZ (hw _ (List.mem_of_getElem? (i := 59) rfl)))) (hw _ (List.mem_of_getElem? (i := 59) rfl)) (hw _ (List.mem_of_getElem? (i := 58) rfl)) (hw _ (List.mem_of_getElem? (i := 10) rfl)) (hw _ (List.mem_of_getElem? (i := 60) rfl)) (by decide) (a := d) (argsL := []) (rest := []) (W := 0) (rm_enc3 l Z a0 hw [] d ar ff T156.heap n0 (Nat.le_trans (Nat.le_trans (Nat.le_trans (Nat.le_trans (Nat.le_trans (Nat.le_trans (Nat.le_trans Z0 K150.1) (Nat.le_of_eq (Wr.size W151).symm)) (Nat.le_of_eq (Wr.size W152).symm)) (Nat.le_of_eq (Wr.size W153).symm)) (Nat.le_of_eq (Wr.size W154).symm)) K155.1) K156.1) (Fd0.keep K156 nin0) ((VF.keep K155 nin0).keep K156 nin0) (((Exa.wr W154 (Exa.wr W153 (Exa.wr W152 (Exa.wr W151 EA)))).keep K155).keep K156) (Fd4.keep K156 nin0) (Fd2.keep K156 nin0)) rfl (Ed.keep K156) (by rw [hml]; rfl) (lenOf pd_8 rfl) rfl (Nat.le_of_eq rfl) (hb hby at_191) (by decide) (by decide) (by decide) (by decide) ?_
    intro v157 T157 L157 X157 hQ157
    obtain ⟨⟨ec, rfl, hec, VE⟩, Nq157, K157⟩ := hQ157
    have N157 := Fr.app N156 Nq157
    refine own_st (fr' := (mkF m 196 #[oI p0, oI p1, oI p2, oI 3, oI z121_0, oI 127, oI 2, .val (.ref ar), oI fi, oI se, .val (.ref d), .val (.ref co), .val (.ref ec), .unset] [])) (fun t k => XS.astore X157.here hx rfl (hb hby at_194) rfl rfl (l' := #[oI p0, oI p1, oI p2, oI 3, oI z121_0, oI 127, oI 2, .val (.ref ar), oI fi, oI se, .val (.ref d), .val (.ref co), .val (.ref ec), .unset]) rfl k) ?_
    refine own_st (fr' := (mkF m 198 #[oI p0, oI p1, oI p2, oI 3, oI z121_0, oI 127, oI 2, .val (.ref ar), oI fi, oI se, .val (.ref d), .val (.ref co), .val (.ref ec), .unset] [(.ref d)])) (fun t k => XS.aload X157.here hx rfl (hb hby at_196) rfl rfl k) ?_
    refine own_callV X157 hx hZ (y := (⟨"com/example/linkvouch/linkvouch/apk/Der", "tag", "()I"⟩ : MethodName)) (z := (⟨"com/example/linkvouch/linkvouch/apk/Der", "tag", "()I"⟩ : MethodName)) hown (hw _ (List.mem_of_getElem? (i := 70) rfl)) (hw _ (List.mem_of_getElem? (i := 71) rfl)) (notFace_of_selects (args := #[]) (mvT hZ (hw _ (List.mem_of_getElem? (i := 73) rfl)))) (hw _ (List.mem_of_getElem? (i := 73) rfl)) (hw _ (List.mem_of_getElem? (i := 72) rfl)) (hw _ (List.mem_of_getElem? (i := 10) rfl)) (hw _ (List.mem_of_getElem? (i := 74) rfl)) (by decide) (a := d) (argsL := []) (rest := []) (W := 0) (rm_tag l Z a0 hw [] d z121_0 T157.heap n0 (Nat.le_trans (Nat.le_trans (Nat.le_trans (Nat.le_trans (Nat.le_trans (Nat.le_trans (Nat.le_trans (Nat.le_trans Z0 K150.1) (Nat.le_of_eq (Wr.size W151).symm)) (Nat.le_of_eq (Wr.size W152).symm)) (Nat.le_of_eq (Wr.size W153).symm)) (Nat.le_of_eq (Wr.size W154).symm)) K155.1) K156.1) K157.1) ((Fd1.keep K156 nin0).keep K157 nin0)) rfl ((Ed.keep K156).keep K157) (by rw [hml]; rfl) (lenOf pd_9 rfl) rfl (Nat.le_of_eq rfl) (hb hby at_198) (by decide) (by decide) (by decide) (by decide) ?_
    intro v158 T158 L158 X158 hQ158
    obtain ⟨rfl, Nq158, eq158⟩ := hQ158
    have N158 := Fr.app N157 Nq158
    refine own_st (fr' := (mkF m 203 #[oI p0, oI p1, oI p2, oI 3, oI z121_0, oI 127, oI 2, .val (.ref ar), oI fi, oI se, .val (.ref d), .val (.ref co), .val (.ref ec), .unset] [(.int z121_0), (.int z121_0)])) (fun t k => XS.iload X158.here hx rfl (hb hby at_201) rfl  k) ?_
    refine own_st (fr' := (mkF m 206 #[oI p0, oI p1, oI p2, oI 3, oI z121_0, oI 127, oI 2, .val (.ref ar), oI fi, oI se, .val (.ref d), .val (.ref co), .val (.ref ec), .unset] [])) (fun t k => XS.icmpNo X158.here hx rfl (hb hby at_203) rfl (own_teq (x := z121_0) (y := z121_0) (show z121_0.toInt = z121_0.toInt from rfl)).2 k) ?_
    refine own_st (fr' := (mkF m 207 #[oI p0, oI p1, oI p2, oI 3, oI z121_0, oI 127, oI 2, .val (.ref ar), oI fi, oI se, .val (.ref d), .val (.ref co), .val (.ref ec), .unset] [(.int 1)])) (fun t k => XS.iconst X158.here hx rfl (hb hby at_206) k) ?_
    refine own_st (fr' := (mkF m 211 #[oI p0, oI p1, oI p2, oI 3, oI z121_0, oI 127, oI 2, .val (.ref ar), oI fi, oI se, .val (.ref d), .val (.ref co), .val (.ref ec), .unset] [(.int 1)])) (fun t k => XS.goto X158.here hx rfl (pc0 := 207) (pc' := 211) rfl (hb hby at_207) (by decide) (by decide) k) ?_
    refine own_st (fr' := (mkF m 213 #[oI p0, oI p1, oI p2, oI 3, oI z121_0, oI 127, oI 2, .val (.ref ar), oI fi, oI se, .val (.ref d), .val (.ref co), .val (.ref ec), oI 1] [])) (fun t k => XS.istore X158.here hx rfl (hb hby at_211) rfl  (l' := #[oI p0, oI p1, oI p2, oI 3, oI z121_0, oI 127, oI 2, .val (.ref ar), oI fi, oI se, .val (.ref d), .val (.ref co), .val (.ref ec), oI 1]) rfl k) ?_
    refine own_st (fr' := (mkF m 215 #[oI p0, oI p1, oI p2, oI 3, oI z121_0, oI 127, oI 2, .val (.ref ar), oI fi, oI se, .val (.ref d), .val (.ref co), .val (.ref ec), oI 1] [(.int 1)])) (fun t k => XS.iload X158.here hx rfl (hb hby at_213) rfl  k) ?_
    refine own_st (fr' := (mkF m 218 #[oI p0, oI p1, oI p2, oI 3, oI z121_0, oI 127, oI 2, .val (.ref ar), oI fi, oI se, .val (.ref d), .val (.ref co), .val (.ref ec), oI 1] [])) (fun t k => XS.ifNo X158.here hx rfl (hb hby at_215) rfl ((if0 _ _).trans (own_feq (x := (1 : Int32)) (y := (0 : Int32)) (show ¬ 1 = 0 from by decide)).1) k) ?_
    refine own_st (fr' := (mkF m 220 #[oI p0, oI p1, oI p2, oI 3, oI z121_0, oI 127, oI 2, .val (.ref ar), oI fi, oI se, .val (.ref d), .val (.ref co), .val (.ref ec), oI 1] [(.ref co)])) (fun t k => XS.aload X158.here hx rfl (hb hby at_218) rfl rfl k) ?_
    refine own_alen X158 hx hZ eq158 (VC.keep K157 nin0) (hb hby at_220) ?_
    refine own_st (fr' := (mkF m 223 #[oI p0, oI p1, oI p2, oI 3, oI z121_0, oI 127, oI 2, .val (.ref ar), oI fi, oI se, .val (.ref d), .val (.ref co), .val (.ref ec), oI 1] [(.int 127), (.int 127)])) (fun t k => XS.iload X158.here hx rfl (hb hby at_221) rfl  k) ?_
    refine own_st (fr' := (mkF m 226 #[oI p0, oI p1, oI p2, oI 3, oI z121_0, oI 127, oI 2, .val (.ref ar), oI fi, oI se, .val (.ref d), .val (.ref co), .val (.ref ec), oI 1] [])) (fun t k => XS.icmpNo X158.here hx rfl (hb hby at_223) rfl (own_teq (x := (127 : Int32)) (y := (127 : Int32)) (show 127 = 127 from by decide)).2 k) ?_
    refine own_st (fr' := (mkF m 227 #[oI p0, oI p1, oI p2, oI 3, oI z121_0, oI 127, oI 2, .val (.ref ar), oI fi, oI se, .val (.ref d), .val (.ref co), .val (.ref ec), oI 1] [(.int 1)])) (fun t k => XS.iconst X158.here hx rfl (hb hby at_226) k) ?_
    refine own_st (fr' := (mkF m 231 #[oI p0, oI p1, oI p2, oI 3, oI z121_0, oI 127, oI 2, .val (.ref ar), oI fi, oI se, .val (.ref d), .val (.ref co), .val (.ref ec), oI 1] [(.int 1)])) (fun t k => XS.goto X158.here hx rfl (pc0 := 227) (pc' := 231) rfl (hb hby at_227) (by decide) (by decide) k) ?_
    refine own_st (fr' := (mkF m 233 #[oI p0, oI p1, oI p2, oI 3, oI z121_0, oI 127, oI 2, .val (.ref ar), oI fi, oI se, .val (.ref d), .val (.ref co), .val (.ref ec), oI 1] [])) (fun t k => XS.istore X158.here hx rfl (hb hby at_231) rfl  (l' := #[oI p0, oI p1, oI p2, oI 3, oI z121_0, oI 127, oI 2, .val (.ref ar), oI fi, oI se, .val (.ref d), .val (.ref co), .val (.ref ec), oI 1]) rfl k) ?_
    refine own_st (fr' := (mkF m 235 #[oI p0, oI p1, oI p2, oI 3, oI z121_0, oI 127, oI 2, .val (.ref ar), oI fi, oI se, .val (.ref d), .val (.ref co), .val (.ref ec), oI 1] [(.int 1)])) (fun t k => XS.iload X158.here hx rfl (hb hby at_233) rfl  k) ?_
    refine own_st (fr' := (mkF m 238 #[oI p0, oI p1, oI p2, oI 3, oI z121_0, oI 127, oI 2, .val (.ref ar), oI fi, oI se, .val (.ref d), .val (.ref co), .val (.ref ec), oI 1] [])) (fun t k => XS.ifNo X158.here hx rfl (hb hby at_235) rfl ((if0 _ _).trans (own_feq (x := (1 : Int32)) (y := (0 : Int32)) (show ¬ 1 = 0 from by decide)).1) k) ?_
    refine own_st (fr' := (mkF m 240 #[oI p0, oI p1, oI p2, oI 3, oI z121_0, oI 127, oI 2, .val (.ref ar), oI fi, oI se, .val (.ref d), .val (.ref co), .val (.ref ec), oI 1] [(.ref ec)])) (fun t k => XS.aload X158.here hx rfl (hb hby at_238) rfl rfl k) ?_
    refine own_alen X158 hx hZ eq158 VE (hb hby at_240) ?_
    refine own_st (fr' := (mkF m 243 #[oI p0, oI p1, oI p2, oI 3, oI z121_0, oI 127, oI 2, .val (.ref ar), oI fi, oI se, .val (.ref d), .val (.ref co), .val (.ref ec), oI 1] [(.ref ar), (.int 129)])) (fun t k => XS.aload X158.here hx rfl (hb hby at_241) rfl rfl k) ?_
    refine own_alen X158 hx hZ eq158 (((VF.keep K155 nin0).keep K156 nin0).keep K157 nin0) (hb hby at_243) ?_
    refine own_st (fr' := (mkF m 247 #[oI p0, oI p1, oI p2, oI 3, oI z121_0, oI 127, oI 2, .val (.ref ar), oI fi, oI se, .val (.ref d), .val (.ref co), .val (.ref ec), oI 1] [])) (fun t k => XS.icmpNo X158.here hx rfl (hb hby at_244) rfl (own_teq (x := (129 : Int32)) (y := (129 : Int32)) (show 129 = 129 from by decide)).2 k) ?_
    refine own_st (fr' := (mkF m 248 #[oI p0, oI p1, oI p2, oI 3, oI z121_0, oI 127, oI 2, .val (.ref ar), oI fi, oI se, .val (.ref d), .val (.ref co), .val (.ref ec), oI 1] [(.int 1)])) (fun t k => XS.iconst X158.here hx rfl (hb hby at_247) k) ?_
    refine own_st (fr' := (mkF m 252 #[oI p0, oI p1, oI p2, oI 3, oI z121_0, oI 127, oI 2, .val (.ref ar), oI fi, oI se, .val (.ref d), .val (.ref co), .val (.ref ec), oI 1] [(.int 1)])) (fun t k => XS.goto X158.here hx rfl (pc0 := 248) (pc' := 252) rfl (hb hby at_248) (by decide) (by decide) k) ?_
    refine own_st (fr' := (mkF m 254 #[oI p0, oI p1, oI p2, oI 3, oI z121_0, oI 127, oI 2, .val (.ref ar), oI fi, oI se, .val (.ref d), .val (.ref co), .val (.ref ec), oI 1] [])) (fun t k => XS.istore X158.here hx rfl (hb hby at_252) rfl  (l' := #[oI p0, oI p1, oI p2, oI 3, oI z121_0, oI 127, oI 2, .val (.ref ar), oI fi, oI se, .val (.ref d), .val (.ref co), .val (.ref ec), oI 1]) rfl k) ?_
    refine own_st (fr' := (mkF m 256 #[oI p0, oI p1, oI p2, oI 3, oI z121_0, oI 127, oI 2, .val (.ref ar), oI fi, oI se, .val (.ref d), .val (.ref co), .val (.ref ec), oI 1] [(.int 1)])) (fun t k => XS.iload X158.here hx rfl (hb hby at_254) rfl  k) ?_
    refine own_st (fr' := (mkF m 259 #[oI p0, oI p1, oI p2, oI 3, oI z121_0, oI 127, oI 2, .val (.ref ar), oI fi, oI se, .val (.ref d), .val (.ref co), .val (.ref ec), oI 1] [])) (fun t k => XS.ifNo X158.here hx rfl (hb hby at_256) rfl ((if0 _ _).trans (own_feq (x := (1 : Int32)) (y := (0 : Int32)) (show ¬ 1 = 0 from by decide)).1) k) ?_
    refine own_st (fr' := (mkF m 261 #[oI p0, oI p1, oI p2, oI 3, oI z121_0, oI 127, oI 2, .val (.ref ar), oI fi, oI se, .val (.ref d), .val (.ref co), .val (.ref ec), oI 1] [(.ref ec)])) (fun t k => XS.aload X158.here hx rfl (hb hby at_259) rfl rfl k) ?_
    refine own_st (fr' := (mkF m 262 #[oI p0, oI p1, oI p2, oI 3, oI z121_0, oI 127, oI 2, .val (.ref ar), oI fi, oI se, .val (.ref d), .val (.ref co), .val (.ref ec), oI 1] [(.int 0), (.ref ec)])) (fun t k => XS.iconst X158.here hx rfl (hb hby at_261) k) ?_
    refine own_baload (j := (0 : Int32)) X158 hx hZ eq158 VE (by decide) (by decide) (v := (.int tb)) (hv0) (hb hby at_262) ?_
    refine own_st (fr' := (mkF m 265 #[oI p0, oI p1, oI p2, oI 3, oI z121_0, oI 127, oI 2, .val (.ref ar), oI fi, oI se, .val (.ref d), .val (.ref co), .val (.ref ec), oI 1] [(.ref ar), (.int tb)])) (fun t k => XS.aload X158.here hx rfl (hb hby at_263) rfl rfl k) ?_
    refine own_st (fr' := (mkF m 266 #[oI p0, oI p1, oI p2, oI 3, oI z121_0, oI 127, oI 2, .val (.ref ar), oI fi, oI se, .val (.ref d), .val (.ref co), .val (.ref ec), oI 1] [(.int 0), (.ref ar), (.int tb)])) (fun t k => XS.iconst X158.here hx rfl (hb hby at_265) k) ?_
    refine own_baload (j := (0 : Int32)) X158 hx hZ eq158 (((VF.keep K155 nin0).keep K156 nin0).keep K157 nin0) (by decide) (by decide) (v := (.int tb)) (hv0) (hb hby at_266) ?_
    refine own_st (fr' := (mkF m 270 #[oI p0, oI p1, oI p2, oI 3, oI z121_0, oI 127, oI 2, .val (.ref ar), oI fi, oI se, .val (.ref d), .val (.ref co), .val (.ref ec), oI 1] [])) (fun t k => XS.icmpNo X158.here hx rfl (hb hby at_267) rfl (own_teq (x := tb) (y := tb) (show tb.toInt = tb.toInt from rfl)).2 k) ?_
    refine own_st (fr' := (mkF m 272 #[oI p0, oI p1, oI p2, oI 3, oI z121_0, oI 127, oI 2, .val (.ref ar), oI fi, oI se, .val (.ref d), .val (.ref co), .val (.ref ec), oI 1] [(.ref ec)])) (fun t k => XS.aload X158.here hx rfl (hb hby at_270) rfl rfl k) ?_
    refine own_st (fr' := (mkF m 273 #[oI p0, oI p1, oI p2, oI 3, oI z121_0, oI 127, oI 2, .val (.ref ar), oI fi, oI se, .val (.ref d), .val (.ref co), .val (.ref ec), oI 1] [(.int 1), (.ref ec)])) (fun t k => XS.iconst X158.here hx rfl (hb hby at_272) k) ?_
    refine own_baload (j := (1 : Int32)) X158 hx hZ eq158 VE (by decide) (by decide) (v := (.int 127)) (hv1) (hb hby at_273) ?_
    refine own_st (fr' := (mkF m 276 #[oI p0, oI p1, oI p2, oI 3, oI z121_0, oI 127, oI 2, .val (.ref ar), oI fi, oI se, .val (.ref d), .val (.ref co), .val (.ref ec), oI 1] [(.ref ar), (.int 127)])) (fun t k => XS.aload X158.here hx rfl (hb hby at_274) rfl rfl k) ?_
    refine own_st (fr' := (mkF m 277 #[oI p0, oI p1, oI p2, oI 3, oI z121_0, oI 127, oI 2, .val (.ref ar), oI fi, oI se, .val (.ref d), .val (.ref co), .val (.ref ec), oI 1] [(.int 1), (.ref ar), (.int 127)])) (fun t k => XS.iconst X158.here hx rfl (hb hby at_276) k) ?_
    refine own_baload (j := (1 : Int32)) X158 hx hZ eq158 (((VF.keep K155 nin0).keep K156 nin0).keep K157 nin0) (by decide) (by decide) (v := (.int 127)) (hv1) (hb hby at_277) ?_
    refine own_st (fr' := (mkF m 281 #[oI p0, oI p1, oI p2, oI 3, oI z121_0, oI 127, oI 2, .val (.ref ar), oI fi, oI se, .val (.ref d), .val (.ref co), .val (.ref ec), oI 1] [])) (fun t k => XS.icmpNo X158.here hx rfl (hb hby at_278) rfl (own_teq (x := (127 : Int32)) (y := (127 : Int32)) (show 127 = 127 from by decide)).2 k) ?_
    refine own_st (fr' := (mkF m 283 #[oI p0, oI p1, oI p2, oI 3, oI z121_0, oI 127, oI 2, .val (.ref ar), oI fi, oI se, .val (.ref d), .val (.ref co), .val (.ref ec), oI 1] [(.ref ec)])) (fun t k => XS.aload X158.here hx rfl (hb hby at_281) rfl rfl k) ?_
    refine own_st (fr' := (mkF m 285 #[oI p0, oI p1, oI p2, oI 3, oI z121_0, oI 127, oI 2, .val (.ref ar), oI fi, oI se, .val (.ref d), .val (.ref co), .val (.ref ec), oI 1] [(.int 2), (.ref ec)])) (fun t k => XS.iload X158.here hx rfl (hb hby at_283) rfl  k) ?_
    refine own_st (fr' := (mkF m 286 #[oI p0, oI p1, oI p2, oI 3, oI z121_0, oI 127, oI 2, .val (.ref ar), oI fi, oI se, .val (.ref d), .val (.ref co), .val (.ref ec), oI 1] [(.int 1), (.int 2), (.ref ec)])) (fun t k => XS.iconst X158.here hx rfl (hb hby at_285) k) ?_
    refine own_st (fr' := (mkF m 287 #[oI p0, oI p1, oI p2, oI 3, oI z121_0, oI 127, oI 2, .val (.ref ar), oI fi, oI se, .val (.ref d), .val (.ref co), .val (.ref ec), oI 1] [(.int 1), (.ref ec)])) (fun t k => XS.isub X158.here hx rfl (hb hby at_286) rfl k) ?_
    refine own_baload (j := (1 : Int32)) X158 hx hZ eq158 VE (by decide) (by decide) (v := (.int 127)) (hv1) (hb hby at_287) ?_
    refine own_st (fr' := (mkF m 290 #[oI p0, oI p1, oI p2, oI 3, oI z121_0, oI 127, oI 2, .val (.ref ar), oI fi, oI se, .val (.ref d), .val (.ref co), .val (.ref ec), oI 1] [(.ref ar), (.int 127)])) (fun t k => XS.aload X158.here hx rfl (hb hby at_288) rfl rfl k) ?_
    refine own_st (fr' := (mkF m 292 #[oI p0, oI p1, oI p2, oI 3, oI z121_0, oI 127, oI 2, .val (.ref ar), oI fi, oI se, .val (.ref d), .val (.ref co), .val (.ref ec), oI 1] [(.int 2), (.ref ar), (.int 127)])) (fun t k => XS.iload X158.here hx rfl (hb hby at_290) rfl  k) ?_
    refine own_st (fr' := (mkF m 293 #[oI p0, oI p1, oI p2, oI 3, oI z121_0, oI 127, oI 2, .val (.ref ar), oI fi, oI se, .val (.ref d), .val (.ref co), .val (.ref ec), oI 1] [(.int 1), (.int 2), (.ref ar), (.int 127)])) (fun t k => XS.iconst X158.here hx rfl (hb hby at_292) k) ?_
    refine own_st (fr' := (mkF m 294 #[oI p0, oI p1, oI p2, oI 3, oI z121_0, oI 127, oI 2, .val (.ref ar), oI fi, oI se, .val (.ref d), .val (.ref co), .val (.ref ec), oI 1] [(.int 1), (.ref ar), (.int 127)])) (fun t k => XS.isub X158.here hx rfl (hb hby at_293) rfl k) ?_
    refine own_baload (j := (1 : Int32)) X158 hx hZ eq158 (((VF.keep K155 nin0).keep K156 nin0).keep K157 nin0) (by decide) (by decide) (v := (.int 127)) (hv1) (hb hby at_294) ?_
    refine own_st (fr' := (mkF m 298 #[oI p0, oI p1, oI p2, oI 3, oI z121_0, oI 127, oI 2, .val (.ref ar), oI fi, oI se, .val (.ref d), .val (.ref co), .val (.ref ec), oI 1] [])) (fun t k => XS.icmpNo X158.here hx rfl (hb hby at_295) rfl (own_teq (x := (127 : Int32)) (y := (127 : Int32)) (show 127 = 127 from by decide)).2 k) ?_
    refine own_st (fr' := (mkF m 299 #[oI p0, oI p1, oI p2, oI 3, oI z121_0, oI 127, oI 2, .val (.ref ar), oI fi, oI se, .val (.ref d), .val (.ref co), .val (.ref ec), oI 1] [(.int 1)])) (fun t k => XS.iconst X158.here hx rfl (hb hby at_298) k) ?_
    refine own_st (fr' := (mkF m 303 #[oI p0, oI p1, oI p2, oI 3, oI z121_0, oI 127, oI 2, .val (.ref ar), oI fi, oI se, .val (.ref d), .val (.ref co), .val (.ref ec), oI 1] [(.int 1)])) (fun t k => XS.goto X158.here hx rfl (pc0 := 299) (pc' := 303) rfl (hb hby at_299) (by decide) (by decide) k) ?_
    refine own_st (fr' := (mkF m 305 #[oI p0, oI p1, oI p2, oI 3, oI z121_0, oI 127, oI 2, .val (.ref ar), oI fi, oI se, .val (.ref d), .val (.ref co), .val (.ref ec), oI 1] [])) (fun t k => XS.istore X158.here hx rfl (hb hby at_303) rfl  (l' := #[oI p0, oI p1, oI p2, oI 3, oI z121_0, oI 127, oI 2, .val (.ref ar), oI fi, oI se, .val (.ref d), .val (.ref co), .val (.ref ec), oI 1]) rfl k) ?_
    refine own_st (fr' := (mkF m 307 #[oI p0, oI p1, oI p2, oI 3, oI z121_0, oI 127, oI 2, .val (.ref ar), oI fi, oI se, .val (.ref d), .val (.ref co), .val (.ref ec), oI 1] [(.int 1)])) (fun t k => XS.iload X158.here hx rfl (hb hby at_305) rfl  k) ?_
    refine own_st (fr' := (mkF m 310 #[oI p0, oI p1, oI p2, oI 3, oI z121_0, oI 127, oI 2, .val (.ref ar), oI fi, oI se, .val (.ref d), .val (.ref co), .val (.ref ec), oI 1] [])) (fun t k => XS.ifNo X158.here hx rfl (hb hby at_307) rfl ((if0 _ _).trans (own_feq (x := (1 : Int32)) (y := (0 : Int32)) (show ¬ 1 = 0 from by decide)).1) k) ?_
    refine own_st (fr' := (mkF m 312 #[oI p0, oI p1, oI p2, oI 3, oI z121_0, oI 127, oI 2, .val (.ref ar), oI fi, oI se, .val (.ref d), .val (.ref co), .val (.ref ec), oI 1] [(.int 127)])) (fun t k => XS.iload X158.here hx rfl (hb hby at_310) rfl  k) ?_
    refine own_st (fr' := (mkF m 313 #[oI p0, oI p1, oI p2, oI 3, oI z121_0, oI 127, oI 2, .val (.ref ar), oI fi, oI se, .val (.ref d), .val (.ref co), .val (.ref ec), oI 1] [(.int 1), (.int 127)])) (fun t k => XS.iconst X158.here hx rfl (hb hby at_312) k) ?_
    refine own_st (fr' := (mkF m 316 #[oI p0, oI p1, oI p2, oI 3, oI z121_0, oI 127, oI 2, .val (.ref ar), oI fi, oI se, .val (.ref d), .val (.ref co), .val (.ref ec), oI 1] [])) (fun t k => XS.icmpNo X158.here hx rfl (hb hby at_313) rfl (own_flt (x := (127 : Int32)) (y := (1 : Int32)) (show ¬ 127 < 1 from by decide)).1 k) ?_
    refine own_st (fr' := (mkF m 318 #[oI p0, oI p1, oI p2, oI 3, oI z121_0, oI 127, oI 2, .val (.ref ar), oI fi, oI se, .val (.ref d), .val (.ref co), .val (.ref ec), oI 1] [(.ref co)])) (fun t k => XS.aload X158.here hx rfl (hb hby at_316) rfl rfl k) ?_
    refine own_st (fr' := (mkF m 319 #[oI p0, oI p1, oI p2, oI 3, oI z121_0, oI 127, oI 2, .val (.ref ar), oI fi, oI se, .val (.ref d), .val (.ref co), .val (.ref ec), oI 1] [(.int 0), (.ref co)])) (fun t k => XS.iconst X158.here hx rfl (hb hby at_318) k) ?_
    refine own_baload (j := (0 : Int32)) X158 hx hZ eq158 (VC.keep K157 nin0) (by decide) (by decide) (v := (.int fi)) ((hgc 0 (by decide)).trans hv2) (hb hby at_319) ?_
    refine own_st (fr' := (mkF m 322 #[oI p0, oI p1, oI p2, oI 3, oI z121_0, oI 127, oI 2, .val (.ref ar), oI fi, oI se, .val (.ref d), .val (.ref co), .val (.ref ec), oI 1] [(.int fi), (.int fi)])) (fun t k => XS.iload X158.here hx rfl (hb hby at_320) rfl  k) ?_
    refine own_st (fr' := (mkF m 325 #[oI p0, oI p1, oI p2, oI 3, oI z121_0, oI 127, oI 2, .val (.ref ar), oI fi, oI se, .val (.ref d), .val (.ref co), .val (.ref ec), oI 1] [])) (fun t k => XS.icmpNo X158.here hx rfl (hb hby at_322) rfl (own_teq (x := fi) (y := fi) (show fi.toInt = fi.toInt from rfl)).2 k) ?_
    refine own_st (fr' := (mkF m 327 #[oI p0, oI p1, oI p2, oI 3, oI z121_0, oI 127, oI 2, .val (.ref ar), oI fi, oI se, .val (.ref d), .val (.ref co), .val (.ref ec), oI 1] [(.ref ec)])) (fun t k => XS.aload X158.here hx rfl (hb hby at_325) rfl rfl k) ?_
    refine own_st (fr' := (mkF m 329 #[oI p0, oI p1, oI p2, oI 3, oI z121_0, oI 127, oI 2, .val (.ref ar), oI fi, oI se, .val (.ref d), .val (.ref co), .val (.ref ec), oI 1] [(.int 2), (.ref ec)])) (fun t k => XS.iload X158.here hx rfl (hb hby at_327) rfl  k) ?_
    refine own_baload (j := (2 : Int32)) X158 hx hZ eq158 VE (by decide) (by decide) (v := (.int fi)) (hv2) (hb hby at_329) ?_
    refine own_st (fr' := (mkF m 332 #[oI p0, oI p1, oI p2, oI 3, oI z121_0, oI 127, oI 2, .val (.ref ar), oI fi, oI se, .val (.ref d), .val (.ref co), .val (.ref ec), oI 1] [(.int fi), (.int fi)])) (fun t k => XS.iload X158.here hx rfl (hb hby at_330) rfl  k) ?_
    refine own_st (fr' := (mkF m 335 #[oI p0, oI p1, oI p2, oI 3, oI z121_0, oI 127, oI 2, .val (.ref ar), oI fi, oI se, .val (.ref d), .val (.ref co), .val (.ref ec), oI 1] [])) (fun t k => XS.icmpNo X158.here hx rfl (hb hby at_332) rfl (own_teq (x := fi) (y := fi) (show fi.toInt = fi.toInt from rfl)).2 k) ?_
    refine own_st (fr' := (mkF m 336 #[oI p0, oI p1, oI p2, oI 3, oI z121_0, oI 127, oI 2, .val (.ref ar), oI fi, oI se, .val (.ref d), .val (.ref co), .val (.ref ec), oI 1] [(.int 1)])) (fun t k => XS.iconst X158.here hx rfl (hb hby at_335) k) ?_
    refine own_st (fr' := (mkF m 340 #[oI p0, oI p1, oI p2, oI 3, oI z121_0, oI 127, oI 2, .val (.ref ar), oI fi, oI se, .val (.ref d), .val (.ref co), .val (.ref ec), oI 1] [(.int 1)])) (fun t k => XS.goto X158.here hx rfl (pc0 := 336) (pc' := 340) rfl (hb hby at_336) (by decide) (by decide) k) ?_
    refine own_st (fr' := (mkF m 342 #[oI p0, oI p1, oI p2, oI 3, oI z121_0, oI 127, oI 2, .val (.ref ar), oI fi, oI se, .val (.ref d), .val (.ref co), .val (.ref ec), oI 1] [])) (fun t k => XS.istore X158.here hx rfl (hb hby at_340) rfl  (l' := #[oI p0, oI p1, oI p2, oI 3, oI z121_0, oI 127, oI 2, .val (.ref ar), oI fi, oI se, .val (.ref d), .val (.ref co), .val (.ref ec), oI 1]) rfl k) ?_
    refine own_st (fr' := (mkF m 344 #[oI p0, oI p1, oI p2, oI 3, oI z121_0, oI 127, oI 2, .val (.ref ar), oI fi, oI se, .val (.ref d), .val (.ref co), .val (.ref ec), oI 1] [(.int 1)])) (fun t k => XS.iload X158.here hx rfl (hb hby at_342) rfl  k) ?_
    refine own_st (fr' := (mkF m 347 #[oI p0, oI p1, oI p2, oI 3, oI z121_0, oI 127, oI 2, .val (.ref ar), oI fi, oI se, .val (.ref d), .val (.ref co), .val (.ref ec), oI 1] [])) (fun t k => XS.ifNo X158.here hx rfl (hb hby at_344) rfl ((if0 _ _).trans (own_feq (x := (1 : Int32)) (y := (0 : Int32)) (show ¬ 1 = 0 from by decide)).1) k) ?_
    refine own_st (fr' := (mkF m 349 #[oI p0, oI p1, oI p2, oI 3, oI z121_0, oI 127, oI 2, .val (.ref ar), oI fi, oI se, .val (.ref d), .val (.ref co), .val (.ref ec), oI 1] [(.int 127)])) (fun t k => XS.iload X158.here hx rfl (hb hby at_347) rfl  k) ?_
    refine own_st (fr' := (mkF m 350 #[oI p0, oI p1, oI p2, oI 3, oI z121_0, oI 127, oI 2, .val (.ref ar), oI fi, oI se, .val (.ref d), .val (.ref co), .val (.ref ec), oI 1] [(.int 2), (.int 127)])) (fun t k => XS.iconst X158.here hx rfl (hb hby at_349) k) ?_
    refine own_st (fr' := (mkF m 353 #[oI p0, oI p1, oI p2, oI 3, oI z121_0, oI 127, oI 2, .val (.ref ar), oI fi, oI se, .val (.ref d), .val (.ref co), .val (.ref ec), oI 1] [])) (fun t k => XS.icmpNo X158.here hx rfl (hb hby at_350) rfl (own_flt (x := (127 : Int32)) (y := (2 : Int32)) (show ¬ 127 < 2 from by decide)).1 k) ?_
    refine own_st (fr' := (mkF m 355 #[oI p0, oI p1, oI p2, oI 3, oI z121_0, oI 127, oI 2, .val (.ref ar), oI fi, oI se, .val (.ref d), .val (.ref co), .val (.ref ec), oI 1] [(.ref co)])) (fun t k => XS.aload X158.here hx rfl (hb hby at_353) rfl rfl k) ?_
    refine own_st (fr' := (mkF m 357 #[oI p0, oI p1, oI p2, oI 3, oI z121_0, oI 127, oI 2, .val (.ref ar), oI fi, oI se, .val (.ref d), .val (.ref co), .val (.ref ec), oI 1] [(.int 127), (.ref co)])) (fun t k => XS.iload X158.here hx rfl (hb hby at_355) rfl  k) ?_
    refine own_st (fr' := (mkF m 358 #[oI p0, oI p1, oI p2, oI 3, oI z121_0, oI 127, oI 2, .val (.ref ar), oI fi, oI se, .val (.ref d), .val (.ref co), .val (.ref ec), oI 1] [(.int 1), (.int 127), (.ref co)])) (fun t k => XS.iconst X158.here hx rfl (hb hby at_357) k) ?_
    refine own_st (fr' := (mkF m 359 #[oI p0, oI p1, oI p2, oI 3, oI z121_0, oI 127, oI 2, .val (.ref ar), oI fi, oI se, .val (.ref d), .val (.ref co), .val (.ref ec), oI 1] [(.int 126), (.ref co)])) (fun t k => XS.isub X158.here hx rfl (hb hby at_358) rfl k) ?_
    refine own_baload (j := (126 : Int32)) X158 hx hZ eq158 (VC.keep K157 nin0) (by decide) (by decide) (v := (.int se)) ((hgc 126 (by decide)).trans hv128) (hb hby at_359) ?_
    refine own_st (fr' := (mkF m 362 #[oI p0, oI p1, oI p2, oI 3, oI z121_0, oI 127, oI 2, .val (.ref ar), oI fi, oI se, .val (.ref d), .val (.ref co), .val (.ref ec), oI 1] [(.int se), (.int se)])) (fun t k => XS.iload X158.here hx rfl (hb hby at_360) rfl  k) ?_
    refine own_st (fr' := (mkF m 365 #[oI p0, oI p1, oI p2, oI 3, oI z121_0, oI 127, oI 2, .val (.ref ar), oI fi, oI se, .val (.ref d), .val (.ref co), .val (.ref ec), oI 1] [])) (fun t k => XS.icmpNo X158.here hx rfl (hb hby at_362) rfl (own_teq (x := se) (y := se) (show se.toInt = se.toInt from rfl)).2 k) ?_
    refine own_st (fr' := (mkF m 367 #[oI p0, oI p1, oI p2, oI 3, oI z121_0, oI 127, oI 2, .val (.ref ar), oI fi, oI se, .val (.ref d), .val (.ref co), .val (.ref ec), oI 1] [(.ref ec)])) (fun t k => XS.aload X158.here hx rfl (hb hby at_365) rfl rfl k) ?_
    refine own_st (fr' := (mkF m 369 #[oI p0, oI p1, oI p2, oI 3, oI z121_0, oI 127, oI 2, .val (.ref ar), oI fi, oI se, .val (.ref d), .val (.ref co), .val (.ref ec), oI 1] [(.ref ar), (.ref ec)])) (fun t k => XS.aload X158.here hx rfl (hb hby at_367) rfl rfl k) ?_
    refine own_alen X158 hx hZ eq158 (((VF.keep K155 nin0).keep K156 nin0).keep K157 nin0) (hb hby at_369) ?_
    refine own_st (fr' := (mkF m 371 #[oI p0, oI p1, oI p2, oI 3, oI z121_0, oI 127, oI 2, .val (.ref ar), oI fi, oI se, .val (.ref d), .val (.ref co), .val (.ref ec), oI 1] [(.int 1), (.int 129), (.ref ec)])) (fun t k => XS.iconst X158.here hx rfl (hb hby at_370) k) ?_
    refine own_st (fr' := (mkF m 372 #[oI p0, oI p1, oI p2, oI 3, oI z121_0, oI 127, oI 2, .val (.ref ar), oI fi, oI se, .val (.ref d), .val (.ref co), .val (.ref ec), oI 1] [(.int 128), (.ref ec)])) (fun t k => XS.isub X158.here hx rfl (hb hby at_371) rfl k) ?_
    refine own_baload (j := (128 : Int32)) X158 hx hZ eq158 VE (by decide) (by decide) (v := (.int se)) (hv128) (hb hby at_372) ?_
    refine own_st (fr' := (mkF m 375 #[oI p0, oI p1, oI p2, oI 3, oI z121_0, oI 127, oI 2, .val (.ref ar), oI fi, oI se, .val (.ref d), .val (.ref co), .val (.ref ec), oI 1] [(.int se), (.int se)])) (fun t k => XS.iload X158.here hx rfl (hb hby at_373) rfl  k) ?_
    refine own_st (fr' := (mkF m 378 #[oI p0, oI p1, oI p2, oI 3, oI z121_0, oI 127, oI 2, .val (.ref ar), oI fi, oI se, .val (.ref d), .val (.ref co), .val (.ref ec), oI 1] [])) (fun t k => XS.icmpNo X158.here hx rfl (hb hby at_375) rfl (own_teq (x := se) (y := se) (show se.toInt = se.toInt from rfl)).2 k) ?_
    refine own_st (fr' := (mkF m 379 #[oI p0, oI p1, oI p2, oI 3, oI z121_0, oI 127, oI 2, .val (.ref ar), oI fi, oI se, .val (.ref d), .val (.ref co), .val (.ref ec), oI 1] [(.int 1)])) (fun t k => XS.iconst X158.here hx rfl (hb hby at_378) k) ?_
    refine own_st (fr' := (mkF m 383 #[oI p0, oI p1, oI p2, oI 3, oI z121_0, oI 127, oI 2, .val (.ref ar), oI fi, oI se, .val (.ref d), .val (.ref co), .val (.ref ec), oI 1] [(.int 1)])) (fun t k => XS.goto X158.here hx rfl (pc0 := 379) (pc' := 383) rfl (hb hby at_379) (by decide) (by decide) k) ?_
    refine own_st (fr' := (mkF m 385 #[oI p0, oI p1, oI p2, oI 3, oI z121_0, oI 127, oI 2, .val (.ref ar), oI fi, oI se, .val (.ref d), .val (.ref co), .val (.ref ec), oI 1] [])) (fun t k => XS.istore X158.here hx rfl (hb hby at_383) rfl  (l' := #[oI p0, oI p1, oI p2, oI 3, oI z121_0, oI 127, oI 2, .val (.ref ar), oI fi, oI se, .val (.ref d), .val (.ref co), .val (.ref ec), oI 1]) rfl k) ?_
    refine own_st (fr' := (mkF m 387 #[oI p0, oI p1, oI p2, oI 3, oI z121_0, oI 127, oI 2, .val (.ref ar), oI fi, oI se, .val (.ref d), .val (.ref co), .val (.ref ec), oI 1] [(.int 1)])) (fun t k => XS.iload X158.here hx rfl (hb hby at_385) rfl  k) ?_
    refine own_st (fr' := (mkF m 390 #[oI p0, oI p1, oI p2, oI 3, oI z121_0, oI 127, oI 2, .val (.ref ar), oI fi, oI se, .val (.ref d), .val (.ref co), .val (.ref ec), oI 1] [])) (fun t k => XS.ifNo X158.here hx rfl (hb hby at_387) rfl ((if0 _ _).trans (own_feq (x := (1 : Int32)) (y := (0 : Int32)) (show ¬ 1 = 0 from by decide)).1) k) ?_
    refine own_st (fr' := (mkF m 392 #[oI p0, oI p1, oI p2, oI 3, oI z121_0, oI 127, oI 2, .val (.ref ar), oI fi, oI se, .val (.ref d), .val (.ref co), .val (.ref ec), oI 1] [(.int 127)])) (fun t k => XS.iload X158.here hx rfl (hb hby at_390) rfl  k) ?_
    refine own_st (fr' := (mkF m 393 #[oI p0, oI p1, oI p2, oI 3, oI z121_0, oI 127, oI 2, .val (.ref ar), oI fi, oI se, .val (.ref d), .val (.ref co), .val (.ref ec), oI 1] [(.int 3), (.int 127)])) (fun t k => XS.iconst X158.here hx rfl (hb hby at_392) k) ?_
    refine own_st (fr' := (mkF m 396 #[oI p0, oI p1, oI p2, oI 3, oI z121_0, oI 127, oI 2, .val (.ref ar), oI fi, oI se, .val (.ref d), .val (.ref co), .val (.ref ec), oI 1] [])) (fun t k => XS.icmpNo X158.here hx rfl (hb hby at_393) rfl (own_flt (x := (127 : Int32)) (y := (3 : Int32)) (show ¬ 127 < 3 from by decide)).1 k) ?_
    refine own_st (fr' := (mkF m 398 #[oI p0, oI p1, oI p2, oI 3, oI z121_0, oI 127, oI 2, .val (.ref ar), oI fi, oI se, .val (.ref d), .val (.ref co), .val (.ref ec), oI 1] [(.ref co)])) (fun t k => XS.aload X158.here hx rfl (hb hby at_396) rfl rfl k) ?_
    refine own_st (fr' := (mkF m 399 #[oI p0, oI p1, oI p2, oI 3, oI z121_0, oI 127, oI 2, .val (.ref ar), oI fi, oI se, .val (.ref d), .val (.ref co), .val (.ref ec), oI 1] [(.int 1), (.ref co)])) (fun t k => XS.iconst X158.here hx rfl (hb hby at_398) k) ?_
    refine own_baload (j := (1 : Int32)) X158 hx hZ eq158 (VC.keep K157 nin0) (by decide) (by decide) (v := (.int 0)) ((hgc 1 (by decide)).trans hvz) (hb hby at_399) ?_
    refine own_st (fr' := (mkF m 403 #[oI p0, oI p1, oI p2, oI 3, oI z121_0, oI 127, oI 2, .val (.ref ar), oI fi, oI se, .val (.ref d), .val (.ref co), .val (.ref ec), oI 1] [])) (fun t k => XS.ifNo X158.here hx rfl (hb hby at_400) rfl ((if0 _ _).trans (own_teq (x := (0 : Int32)) (y := (0 : Int32)) (show 0 = 0 from by decide)).2) k) ?_
    refine own_st (fr' := (mkF m 405 #[oI p0, oI p1, oI p2, oI 3, oI z121_0, oI 127, oI 2, .val (.ref ar), oI fi, oI se, .val (.ref d), .val (.ref co), .val (.ref ec), oI 1] [(.ref ec)])) (fun t k => XS.aload X158.here hx rfl (hb hby at_403) rfl rfl k) ?_
    refine own_st (fr' := (mkF m 407 #[oI p0, oI p1, oI p2, oI 3, oI z121_0, oI 127, oI 2, .val (.ref ar), oI fi, oI se, .val (.ref d), .val (.ref co), .val (.ref ec), oI 1] [(.int 2), (.ref ec)])) (fun t k => XS.iload X158.here hx rfl (hb hby at_405) rfl  k) ?_
    refine own_st (fr' := (mkF m 408 #[oI p0, oI p1, oI p2, oI 3, oI z121_0, oI 127, oI 2, .val (.ref ar), oI fi, oI se, .val (.ref d), .val (.ref co), .val (.ref ec), oI 1] [(.int 1), (.int 2), (.ref ec)])) (fun t k => XS.iconst X158.here hx rfl (hb hby at_407) k) ?_
    refine own_st (fr' := (mkF m 409 #[oI p0, oI p1, oI p2, oI 3, oI z121_0, oI 127, oI 2, .val (.ref ar), oI fi, oI se, .val (.ref d), .val (.ref co), .val (.ref ec), oI 1] [(.int 3), (.ref ec)])) (fun t k => XS.iadd X158.here hx rfl (hb hby at_408) rfl k) ?_
    refine own_baload (j := (3 : Int32)) X158 hx hZ eq158 VE (by decide) (by decide) (v := (.int 0)) (hvz) (hb hby at_409) ?_
    refine own_st (fr' := (mkF m 413 #[oI p0, oI p1, oI p2, oI 3, oI z121_0, oI 127, oI 2, .val (.ref ar), oI fi, oI se, .val (.ref d), .val (.ref co), .val (.ref ec), oI 1] [])) (fun t k => XS.ifNo X158.here hx rfl (hb hby at_410) rfl ((if0 _ _).trans (own_teq (x := (0 : Int32)) (y := (0 : Int32)) (show 0 = 0 from by decide)).2) k) ?_
    refine own_st (fr' := (mkF m 414 #[oI p0, oI p1, oI p2, oI 3, oI z121_0, oI 127, oI 2, .val (.ref ar), oI fi, oI se, .val (.ref d), .val (.ref co), .val (.ref ec), oI 1] [(.int 1)])) (fun t k => XS.iconst X158.here hx rfl (hb hby at_413) k) ?_
    refine own_st (fr' := (mkF m 418 #[oI p0, oI p1, oI p2, oI 3, oI z121_0, oI 127, oI 2, .val (.ref ar), oI fi, oI se, .val (.ref d), .val (.ref co), .val (.ref ec), oI 1] [(.int 1)])) (fun t k => XS.goto X158.here hx rfl (pc0 := 414) (pc' := 418) rfl (hb hby at_414) (by decide) (by decide) k) ?_
    refine own_st (fr' := (mkF m 420 #[oI p0, oI p1, oI p2, oI 3, oI z121_0, oI 127, oI 2, .val (.ref ar), oI fi, oI se, .val (.ref d), .val (.ref co), .val (.ref ec), oI 1] [])) (fun t k => XS.istore X158.here hx rfl (hb hby at_418) rfl  (l' := #[oI p0, oI p1, oI p2, oI 3, oI z121_0, oI 127, oI 2, .val (.ref ar), oI fi, oI se, .val (.ref d), .val (.ref co), .val (.ref ec), oI 1]) rfl k) ?_
    refine own_st (fr' := (mkF m 422 #[oI p0, oI p1, oI p2, oI 3, oI z121_0, oI 127, oI 2, .val (.ref ar), oI fi, oI se, .val (.ref d), .val (.ref co), .val (.ref ec), oI 1] [(.int 1)])) (fun t k => XS.iload X158.here hx rfl (hb hby at_420) rfl  k) ?_
    exact own_retZ X158 hx hlk hret (Or.inr rfl) (hb hby at_422) (by decide) (by decide) (⟨rfl, N158⟩)
  · obtain rfl : fo = (4 : Int32) := Int32.toInt_inj.mp hfo
    refine own_st (fr' := (mkF m 29 #[oI p0, oI p1, oI p2, oI 4, oI z121_0, .unset, .unset, .unset, .unset, .unset, .unset, .unset, .unset, .unset] [(.int 4)])) (fun t k => XS.iloadN X0.here hx rfl (hb hby at_28) rfl  k) ?_
    refine own_callS X0 hx hZ (y := (⟨"com/example/linkvouch/linkvouch/apk/DerParsePinLaw", "lengthOf", "(I)I"⟩ : MethodName)) hown (hw _ (List.mem_of_getElem? (i := 0) rfl)) (hw _ (List.mem_of_getElem? (i := 1) rfl)) (hw _ (List.mem_of_getElem? (i := 2) rfl)) (hw _ (List.mem_of_getElem? (i := 3) rfl)) (by decide) (argsL := [(.int 4)]) (rest := []) (W := 0) (rm_len4 l Z a0 hw []  h0 n0 Z0 ) e0 (by rw [hml]; rfl) (lenOf pd_5 rfl) rfl (Nat.le_of_eq rfl) (hb hby at_29) (by decide) (by decide) (by decide) (by decide) ?_
    intro v159 T159 L159 X159 hQ159
    obtain ⟨rfl, Nq159, eq159⟩ := hQ159
    have N159 := Fr.app N0 Nq159
    refine own_st (fr' := (mkF m 34 #[oI p0, oI p1, oI p2, oI 4, oI z121_0, oI 128, .unset, .unset, .unset, .unset, .unset, .unset, .unset, .unset] [])) (fun t k => XS.istore X159.here hx rfl (hb hby at_32) rfl  (l' := #[oI p0, oI p1, oI p2, oI 4, oI z121_0, oI 128, .unset, .unset, .unset, .unset, .unset, .unset, .unset, .unset]) rfl k) ?_
    refine own_st (fr' := (mkF m 35 #[oI p0, oI p1, oI p2, oI 4, oI z121_0, oI 128, .unset, .unset, .unset, .unset, .unset, .unset, .unset, .unset] [(.int 4)])) (fun t k => XS.iloadN X159.here hx rfl (hb hby at_34) rfl  k) ?_
    refine own_st (fr' := (mkF m 36 #[oI p0, oI p1, oI p2, oI 4, oI z121_0, oI 128, .unset, .unset, .unset, .unset, .unset, .unset, .unset, .unset] [(.int 4), (.int 4)])) (fun t k => XS.iconst X159.here hx rfl (hb hby at_35) k) ?_
    refine own_st (fr' := (mkF m 45 #[oI p0, oI p1, oI p2, oI 4, oI z121_0, oI 128, .unset, .unset, .unset, .unset, .unset, .unset, .unset, .unset] [])) (fun t k => XS.icmpYes X159.here hx rfl (pc0 := 36) (pc' := 45) rfl (hb hby at_36) rfl (own_flt (x := (4 : Int32)) (y := (4 : Int32)) (show ¬ 4 < 4 from by decide)).2.1 (by decide) (by decide) k) ?_
    refine own_st (fr' := (mkF m 46 #[oI p0, oI p1, oI p2, oI 4, oI z121_0, oI 128, .unset, .unset, .unset, .unset, .unset, .unset, .unset, .unset] [(.int 4)])) (fun t k => XS.iloadN X159.here hx rfl (hb hby at_45) rfl  k) ?_
    refine own_st (fr' := (mkF m 48 #[oI p0, oI p1, oI p2, oI 4, oI z121_0, oI 128, .unset, .unset, .unset, .unset, .unset, .unset, .unset, .unset] [(.int 6), (.int 4)])) (fun t k => XS.bipush X159.here hx rfl (hb hby at_46) k) ?_
    refine own_st (fr' := (mkF m 51 #[oI p0, oI p1, oI p2, oI 4, oI z121_0, oI 128, .unset, .unset, .unset, .unset, .unset, .unset, .unset, .unset] [])) (fun t k => XS.icmpNo X159.here hx rfl (hb hby at_48) rfl (own_tlt (x := (4 : Int32)) (y := (6 : Int32)) (show 4 < 6 from by decide)).2.1 k) ?_
    refine own_st (fr' := (mkF m 52 #[oI p0, oI p1, oI p2, oI 4, oI z121_0, oI 128, .unset, .unset, .unset, .unset, .unset, .unset, .unset, .unset] [(.int 3)])) (fun t k => XS.iconst X159.here hx rfl (hb hby at_51) k) ?_
    refine own_st (fr' := (mkF m 54 #[oI p0, oI p1, oI p2, oI 4, oI z121_0, oI 128, oI 3, .unset, .unset, .unset, .unset, .unset, .unset, .unset] [])) (fun t k => XS.istore X159.here hx rfl (hb hby at_52) rfl  (l' := #[oI p0, oI p1, oI p2, oI 4, oI z121_0, oI 128, oI 3, .unset, .unset, .unset, .unset, .unset, .unset, .unset]) rfl k) ?_
    refine own_st (fr' := (mkF m 60 #[oI p0, oI p1, oI p2, oI 4, oI z121_0, oI 128, oI 3, .unset, .unset, .unset, .unset, .unset, .unset, .unset] [])) (fun t k => XS.goto X159.here hx rfl (pc0 := 54) (pc' := 60) rfl (hb hby at_54) (by decide) (by decide) k) ?_
    refine own_st (fr' := (mkF m 61 #[oI p0, oI p1, oI p2, oI 4, oI z121_0, oI 128, oI 3, .unset, .unset, .unset, .unset, .unset, .unset, .unset] [(.int 4)])) (fun t k => XS.iloadN X159.here hx rfl (hb hby at_60) rfl  k) ?_
    refine own_callS X159 hx hZ (y := (⟨"com/example/linkvouch/linkvouch/apk/DerParsePinLaw", "alloc", "(I)[B"⟩ : MethodName)) hown (hw _ (List.mem_of_getElem? (i := 4) rfl)) (hw _ (List.mem_of_getElem? (i := 5) rfl)) (hw _ (List.mem_of_getElem? (i := 2) rfl)) (hw _ (List.mem_of_getElem? (i := 6) rfl)) (by decide) (argsL := [(.int 4)]) (rest := []) (W := 0) (rm_alloc4 l Z a0 hw []  h0 n0 Z0 ) eq159 (by rw [hml]; rfl) (lenOf pd_6 rfl) rfl (Nat.le_of_eq rfl) (hb hby at_61) (by decide) (by decide) (by decide) (by decide) ?_
    intro v160 T160 L160 X160 hQ160
    obtain ⟨⟨ar, rfl, har, ge_ar, VA, EA⟩, Nq160, K160⟩ := hQ160
    have N160 := Fr.app N159 Nq160
    refine own_st (fr' := (mkF m 66 #[oI p0, oI p1, oI p2, oI 4, oI z121_0, oI 128, oI 3, .val (.ref ar), .unset, .unset, .unset, .unset, .unset, .unset] [])) (fun t k => XS.astore X160.here hx rfl (hb hby at_64) rfl rfl (l' := #[oI p0, oI p1, oI p2, oI 4, oI z121_0, oI 128, oI 3, .val (.ref ar), .unset, .unset, .unset, .unset, .unset, .unset]) rfl k) ?_
    refine own_st (fr' := (mkF m 68 #[oI p0, oI p1, oI p2, oI 4, oI z121_0, oI 128, oI 3, .val (.ref ar), .unset, .unset, .unset, .unset, .unset, .unset] [(.ref ar)])) (fun t k => XS.aload X160.here hx rfl (hb hby at_66) rfl rfl k) ?_
    refine own_st (fr' := (mkF m 69 #[oI p0, oI p1, oI p2, oI 4, oI z121_0, oI 128, oI 3, .val (.ref ar), .unset, .unset, .unset, .unset, .unset, .unset] [(.int 0), (.ref ar)])) (fun t k => XS.iconst X160.here hx rfl (hb hby at_68) k) ?_
    refine own_st (fr' := (mkF m 71 #[oI p0, oI p1, oI p2, oI 4, oI z121_0, oI 128, oI 3, .val (.ref ar), .unset, .unset, .unset, .unset, .unset, .unset] [(.int z121_0), (.int 0), (.ref ar)])) (fun t k => XS.iload X160.here hx rfl (hb hby at_69) rfl  k) ?_
    refine own_st (fr' := (mkF m 72 #[oI p0, oI p1, oI p2, oI 4, oI z121_0, oI 128, oI 3, .val (.ref ar), .unset, .unset, .unset, .unset, .unset, .unset] [(.int (z121_0.toInt8.toInt32)), (.int 0), (.ref ar)])) (fun t k => XS.i2b X160.here hx rfl (hb hby at_71) rfl k) ?_
    have qb := c_i2b z121_0
    generalize hTB : (z121_0.toInt8.toInt32) = tb at qb ⊢
    have hnb : nar .byte tb = tb := own_narb qb.2.1 (by omega)
    refine own_bastore X160 hx hZ rfl VA (by decide) (by decide) (hb hby at_72) ?_
    intro T161 h161 X161 e161 W161 V161
    have N161 := Fr.snoc X161 N160 ge_ar
    refine own_st (fr' := (mkF m 74 #[oI p0, oI p1, oI p2, oI 4, oI z121_0, oI 128, oI 3, .val (.ref ar), .unset, .unset, .unset, .unset, .unset, .unset] [(.int 4)])) (fun t k => XS.iloadN X161.here hx rfl (hb hby at_73) rfl  k) ?_
    refine own_st (fr' := (mkF m 75 #[oI p0, oI p1, oI p2, oI 4, oI z121_0, oI 128, oI 3, .val (.ref ar), .unset, .unset, .unset, .unset, .unset, .unset] [(.int 4), (.int 4)])) (fun t k => XS.iconst X161.here hx rfl (hb hby at_74) k) ?_
    refine own_st (fr' := (mkF m 88 #[oI p0, oI p1, oI p2, oI 4, oI z121_0, oI 128, oI 3, .val (.ref ar), .unset, .unset, .unset, .unset, .unset, .unset] [])) (fun t k => XS.icmpYes X161.here hx rfl (pc0 := 75) (pc' := 88) rfl (hb hby at_75) rfl (own_flt (x := (4 : Int32)) (y := (4 : Int32)) (show ¬ 4 < 4 from by decide)).2.1 (by decide) (by decide) k) ?_
    refine own_st (fr' := (mkF m 89 #[oI p0, oI p1, oI p2, oI 4, oI z121_0, oI 128, oI 3, .val (.ref ar), .unset, .unset, .unset, .unset, .unset, .unset] [(.int 4)])) (fun t k => XS.iloadN X161.here hx rfl (hb hby at_88) rfl  k) ?_
    refine own_st (fr' := (mkF m 91 #[oI p0, oI p1, oI p2, oI 4, oI z121_0, oI 128, oI 3, .val (.ref ar), .unset, .unset, .unset, .unset, .unset, .unset] [(.int 6), (.int 4)])) (fun t k => XS.bipush X161.here hx rfl (hb hby at_89) k) ?_
    refine own_st (fr' := (mkF m 94 #[oI p0, oI p1, oI p2, oI 4, oI z121_0, oI 128, oI 3, .val (.ref ar), .unset, .unset, .unset, .unset, .unset, .unset] [])) (fun t k => XS.icmpNo X161.here hx rfl (hb hby at_91) rfl (own_tlt (x := (4 : Int32)) (y := (6 : Int32)) (show 4 < 6 from by decide)).2.1 k) ?_
    refine own_st (fr' := (mkF m 96 #[oI p0, oI p1, oI p2, oI 4, oI z121_0, oI 128, oI 3, .val (.ref ar), .unset, .unset, .unset, .unset, .unset, .unset] [(.ref ar)])) (fun t k => XS.aload X161.here hx rfl (hb hby at_94) rfl rfl k) ?_
    refine own_st (fr' := (mkF m 97 #[oI p0, oI p1, oI p2, oI 4, oI z121_0, oI 128, oI 3, .val (.ref ar), .unset, .unset, .unset, .unset, .unset, .unset] [(.int 1), (.ref ar)])) (fun t k => XS.iconst X161.here hx rfl (hb hby at_96) k) ?_
    refine own_st (fr' := (mkF m 99 #[oI p0, oI p1, oI p2, oI 4, oI z121_0, oI 128, oI 3, .val (.ref ar), .unset, .unset, .unset, .unset, .unset, .unset] [(.int (-127 : Int32)), (.int 1), (.ref ar)])) (fun t k => XS.bipush X161.here hx rfl (hb hby at_97) k) ?_
    refine own_bastore X161 hx hZ e161 V161 (by decide) (by decide) (hb hby at_99) ?_
    intro T162 h162 X162 e162 W162 V162
    have N162 := Fr.snoc X162 N161 ge_ar
    refine own_st (fr' := (mkF m 102 #[oI p0, oI p1, oI p2, oI 4, oI z121_0, oI 128, oI 3, .val (.ref ar), .unset, .unset, .unset, .unset, .unset, .unset] [(.ref ar)])) (fun t k => XS.aload X162.here hx rfl (hb hby at_100) rfl rfl k) ?_
    refine own_st (fr' := (mkF m 103 #[oI p0, oI p1, oI p2, oI 4, oI z121_0, oI 128, oI 3, .val (.ref ar), .unset, .unset, .unset, .unset, .unset, .unset] [(.int 2), (.ref ar)])) (fun t k => XS.iconst X162.here hx rfl (hb hby at_102) k) ?_
    refine own_st (fr' := (mkF m 105 #[oI p0, oI p1, oI p2, oI 4, oI z121_0, oI 128, oI 3, .val (.ref ar), .unset, .unset, .unset, .unset, .unset, .unset] [(.int 128), (.int 2), (.ref ar)])) (fun t k => XS.iload X162.here hx rfl (hb hby at_103) rfl  k) ?_
    refine own_st (fr' := (mkF m 106 #[oI p0, oI p1, oI p2, oI 4, oI z121_0, oI 128, oI 3, .val (.ref ar), .unset, .unset, .unset, .unset, .unset, .unset] [(.int (-128 : Int32)), (.int 2), (.ref ar)])) (fun t k => XS.i2b X162.here hx rfl (hb hby at_105) rfl k) ?_
    refine own_bastore X162 hx hZ e162 V162 (by decide) (by decide) (hb hby at_106) ?_
    intro T163 h163 X163 e163 W163 V163
    have N163 := Fr.snoc X163 N162 ge_ar
    refine own_st (fr' := (mkF m 133 #[oI p0, oI p1, oI p2, oI 4, oI z121_0, oI 128, oI 3, .val (.ref ar), .unset, .unset, .unset, .unset, .unset, .unset] [])) (fun t k => XS.goto X163.here hx rfl (pc0 := 107) (pc' := 133) rfl (hb hby at_107) (by decide) (by decide) k) ?_
    refine own_st (fr' := (mkF m 134 #[oI p0, oI p1, oI p2, oI 4, oI z121_0, oI 128, oI 3, .val (.ref ar), .unset, .unset, .unset, .unset, .unset, .unset] [(.int p2)])) (fun t k => XS.iloadN X163.here hx rfl (hb hby at_133) rfl  k) ?_
    refine own_st (fr' := (mkF m 135 #[oI p0, oI p1, oI p2, oI 4, oI z121_0, oI 128, oI 3, .val (.ref ar), .unset, .unset, .unset, .unset, .unset, .unset] [(.int (p2.toInt8.toInt32))])) (fun t k => XS.i2b X163.here hx rfl (hb hby at_134) rfl k) ?_
    refine own_st (fr' := (mkF m 137 #[oI p0, oI p1, oI p2, oI 4, oI z121_0, oI 128, oI 3, .val (.ref ar), .val (.int (p2.toInt8.toInt32)), .unset, .unset, .unset, .unset, .unset] [])) (fun t k => XS.istore X163.here hx rfl (hb hby at_135) rfl  (l' := #[oI p0, oI p1, oI p2, oI 4, oI z121_0, oI 128, oI 3, .val (.ref ar), .val (.int (p2.toInt8.toInt32)), .unset, .unset, .unset, .unset, .unset]) rfl k) ?_
    have q1 := c_i2b p2
    generalize hFI : p2.toInt8.toInt32 = fi at q1 ⊢
    have hnf : nar .byte fi = fi := own_narb q1.2.1 (by omega)
    refine own_st (fr' := (mkF m 138 #[oI p0, oI p1, oI p2, oI 4, oI z121_0, oI 128, oI 3, .val (.ref ar), oI fi, .unset, .unset, .unset, .unset, .unset] [(.int p2)])) (fun t k => XS.iloadN X163.here hx rfl (hb hby at_137) rfl  k) ?_
    refine own_st (fr' := (mkF m 140 #[oI p0, oI p1, oI p2, oI 4, oI z121_0, oI 128, oI 3, .val (.ref ar), oI fi, .unset, .unset, .unset, .unset, .unset] [(.int 8), (.int p2)])) (fun t k => XS.bipush X163.here hx rfl (hb hby at_138) k) ?_
    refine own_st (fr' := (mkF m 141 #[oI p0, oI p1, oI p2, oI 4, oI z121_0, oI 128, oI 3, .val (.ref ar), oI fi, .unset, .unset, .unset, .unset, .unset] [(.int (p2 >>> ((8 : Int32) &&& 31)))])) (fun t k => XS.ishr X163.here hx rfl (hb hby at_140) rfl k) ?_
    refine own_st (fr' := (mkF m 142 #[oI p0, oI p1, oI p2, oI 4, oI z121_0, oI 128, oI 3, .val (.ref ar), oI fi, .unset, .unset, .unset, .unset, .unset] [(.int ((p2 >>> ((8 : Int32) &&& 31)).toInt8.toInt32))])) (fun t k => XS.i2b X163.here hx rfl (hb hby at_141) rfl k) ?_
    refine own_st (fr' := (mkF m 144 #[oI p0, oI p1, oI p2, oI 4, oI z121_0, oI 128, oI 3, .val (.ref ar), oI fi, .val (.int ((p2 >>> ((8 : Int32) &&& 31)).toInt8.toInt32)), .unset, .unset, .unset, .unset] [])) (fun t k => XS.istore X163.here hx rfl (hb hby at_142) rfl  (l' := #[oI p0, oI p1, oI p2, oI 4, oI z121_0, oI 128, oI 3, .val (.ref ar), oI fi, .val (.int ((p2 >>> ((8 : Int32) &&& 31)).toInt8.toInt32)), .unset, .unset, .unset, .unset]) rfl k) ?_
    have q2 := c_i2b (p2 >>> ((8 : Int32) &&& 31))
    generalize hSE : (p2 >>> ((8 : Int32) &&& 31)).toInt8.toInt32 = se at q2 ⊢
    have hns : nar .byte se = se := own_narb q2.2.1 (by omega)
    refine own_st (fr' := (mkF m 146 #[oI p0, oI p1, oI p2, oI 4, oI z121_0, oI 128, oI 3, .val (.ref ar), oI fi, oI se, .unset, .unset, .unset, .unset] [(.int 128)])) (fun t k => XS.iload X163.here hx rfl (hb hby at_144) rfl  k) ?_
    refine own_st (fr' := (mkF m 147 #[oI p0, oI p1, oI p2, oI 4, oI z121_0, oI 128, oI 3, .val (.ref ar), oI fi, oI se, .unset, .unset, .unset, .unset] [(.int 1), (.int 128)])) (fun t k => XS.iconst X163.here hx rfl (hb hby at_146) k) ?_
    refine own_st (fr' := (mkF m 150 #[oI p0, oI p1, oI p2, oI 4, oI z121_0, oI 128, oI 3, .val (.ref ar), oI fi, oI se, .unset, .unset, .unset, .unset] [])) (fun t k => XS.icmpNo X163.here hx rfl (hb hby at_147) rfl (own_flt (x := (128 : Int32)) (y := (1 : Int32)) (show ¬ 128 < 1 from by decide)).1 k) ?_
    refine own_st (fr' := (mkF m 152 #[oI p0, oI p1, oI p2, oI 4, oI z121_0, oI 128, oI 3, .val (.ref ar), oI fi, oI se, .unset, .unset, .unset, .unset] [(.ref ar)])) (fun t k => XS.aload X163.here hx rfl (hb hby at_150) rfl rfl k) ?_
    refine own_st (fr' := (mkF m 154 #[oI p0, oI p1, oI p2, oI 4, oI z121_0, oI 128, oI 3, .val (.ref ar), oI fi, oI se, .unset, .unset, .unset, .unset] [(.int 3), (.ref ar)])) (fun t k => XS.iload X163.here hx rfl (hb hby at_152) rfl  k) ?_
    refine own_st (fr' := (mkF m 156 #[oI p0, oI p1, oI p2, oI 4, oI z121_0, oI 128, oI 3, .val (.ref ar), oI fi, oI se, .unset, .unset, .unset, .unset] [(.int fi), (.int 3), (.ref ar)])) (fun t k => XS.iload X163.here hx rfl (hb hby at_154) rfl  k) ?_
    refine own_bastore X163 hx hZ e163 V163 (by decide) (by decide) (hb hby at_156) ?_
    intro T164 h164 X164 e164 W164 V164
    have N164 := Fr.snoc X164 N163 ge_ar
    refine own_st (fr' := (mkF m 159 #[oI p0, oI p1, oI p2, oI 4, oI z121_0, oI 128, oI 3, .val (.ref ar), oI fi, oI se, .unset, .unset, .unset, .unset] [(.int 128)])) (fun t k => XS.iload X164.here hx rfl (hb hby at_157) rfl  k) ?_
    refine own_st (fr' := (mkF m 160 #[oI p0, oI p1, oI p2, oI 4, oI z121_0, oI 128, oI 3, .val (.ref ar), oI fi, oI se, .unset, .unset, .unset, .unset] [(.int 2), (.int 128)])) (fun t k => XS.iconst X164.here hx rfl (hb hby at_159) k) ?_
    refine own_st (fr' := (mkF m 163 #[oI p0, oI p1, oI p2, oI 4, oI z121_0, oI 128, oI 3, .val (.ref ar), oI fi, oI se, .unset, .unset, .unset, .unset] [])) (fun t k => XS.icmpNo X164.here hx rfl (hb hby at_160) rfl (own_flt (x := (128 : Int32)) (y := (2 : Int32)) (show ¬ 128 < 2 from by decide)).1 k) ?_
    refine own_st (fr' := (mkF m 165 #[oI p0, oI p1, oI p2, oI 4, oI z121_0, oI 128, oI 3, .val (.ref ar), oI fi, oI se, .unset, .unset, .unset, .unset] [(.ref ar)])) (fun t k => XS.aload X164.here hx rfl (hb hby at_163) rfl rfl k) ?_
    refine own_st (fr' := (mkF m 167 #[oI p0, oI p1, oI p2, oI 4, oI z121_0, oI 128, oI 3, .val (.ref ar), oI fi, oI se, .unset, .unset, .unset, .unset] [(.int 3), (.ref ar)])) (fun t k => XS.iload X164.here hx rfl (hb hby at_165) rfl  k) ?_
    refine own_st (fr' := (mkF m 169 #[oI p0, oI p1, oI p2, oI 4, oI z121_0, oI 128, oI 3, .val (.ref ar), oI fi, oI se, .unset, .unset, .unset, .unset] [(.int 128), (.int 3), (.ref ar)])) (fun t k => XS.iload X164.here hx rfl (hb hby at_167) rfl  k) ?_
    refine own_st (fr' := (mkF m 170 #[oI p0, oI p1, oI p2, oI 4, oI z121_0, oI 128, oI 3, .val (.ref ar), oI fi, oI se, .unset, .unset, .unset, .unset] [(.int 131), (.ref ar)])) (fun t k => XS.iadd X164.here hx rfl (hb hby at_169) rfl k) ?_
    refine own_st (fr' := (mkF m 171 #[oI p0, oI p1, oI p2, oI 4, oI z121_0, oI 128, oI 3, .val (.ref ar), oI fi, oI se, .unset, .unset, .unset, .unset] [(.int 1), (.int 131), (.ref ar)])) (fun t k => XS.iconst X164.here hx rfl (hb hby at_170) k) ?_
    refine own_st (fr' := (mkF m 172 #[oI p0, oI p1, oI p2, oI 4, oI z121_0, oI 128, oI 3, .val (.ref ar), oI fi, oI se, .unset, .unset, .unset, .unset] [(.int 130), (.ref ar)])) (fun t k => XS.isub X164.here hx rfl (hb hby at_171) rfl k) ?_
    refine own_st (fr' := (mkF m 174 #[oI p0, oI p1, oI p2, oI 4, oI z121_0, oI 128, oI 3, .val (.ref ar), oI fi, oI se, .unset, .unset, .unset, .unset] [(.int se), (.int 130), (.ref ar)])) (fun t k => XS.iload X164.here hx rfl (hb hby at_172) rfl  k) ?_
    refine own_bastore X164 hx hZ e164 V164 (by decide) (by decide) (hb hby at_174) ?_
    intro T165 h165 X165 e165 W165 V165
    have N165 := Fr.snoc X165 N164 ge_ar
    obtain ⟨ff, VF, hv⟩ : ∃ ff : Nat → Value, own_A Z h165 ar .byte 131 ff ∧ (ff 0 = .int tb ∧ ff 1 = .int (-127 : Int32) ∧ ff 2 = .int (-128 : Int32) ∧ ff 3 = .int fi ∧ ff 130 = .int se ∧ ff 4 = .int 0) := ⟨_, V165, by show Value.int (nar .byte tb) = _; rw [hnb], rfl, rfl, by show Value.int (nar .byte fi) = _; rw [hnf], by show Value.int (nar .byte se) = _; rw [hns], rfl⟩
    obtain ⟨hv0, hv1, hv2, hv3, hv130, hvz⟩ := hv
    have hbk : tb &&& 255 = z121_0 := own_back z121_0 tb hz121.1 hz121.2.1 (by omega)
    refine own_st (fr' := (mkF m 177 #[oI p0, oI p1, oI p2, oI 4, oI z121_0, oI 128, oI 3, .val (.ref ar), oI fi, oI se, .unset, .unset, .unset, .unset] [(.ref ar)])) (fun t k => XS.aload X165.here hx rfl (hb hby at_175) rfl rfl k) ?_
    refine own_callS X165 hx hZ (y := (⟨"com/example/linkvouch/linkvouch/apk/Der", "parse", "([B)Lcom/example/linkvouch/linkvouch/apk/Der;"⟩ : MethodName)) hown (hw _ (List.mem_of_getElem? (i := 8) rfl)) (hw _ (List.mem_of_getElem? (i := 9) rfl)) (hw _ (List.mem_of_getElem? (i := 10) rfl)) (hw _ (List.mem_of_getElem? (i := 11) rfl)) (by decide) (argsL := [(.ref ar)]) (rest := []) (W := 0) (rm_parse4 l Z a0 hw [] ar tb ff h165 n0 (Nat.le_trans (Nat.le_trans (Nat.le_trans (Nat.le_trans (Nat.le_trans (Nat.le_trans Z0 K160.1) (Nat.le_of_eq (Wr.size W161).symm)) (Nat.le_of_eq (Wr.size W162).symm)) (Nat.le_of_eq (Wr.size W163).symm)) (Nat.le_of_eq (Wr.size W164).symm)) (Nat.le_of_eq (Wr.size W165).symm)) VF hv0 hv1 hv2 (by rw [hbk]; exact hz121.2.2)) e165 (by rw [hml]; rfl) (lenOf pd_7 rfl) rfl (Nat.le_of_eq rfl) (hb hby at_177) (by decide) (by decide) (by decide) (by decide) ?_
    intro v166 T166 L166 X166 hQ166
    obtain ⟨⟨d, rfl, hd0, Ed, Fd0, Fd1, Fd2, Fd3, Fd4⟩, Nq166, K166⟩ := hQ166
    rw [hbk] at Fd1
    have N166 := Fr.app N165 Nq166
    refine own_st (fr' := (mkF m 182 #[oI p0, oI p1, oI p2, oI 4, oI z121_0, oI 128, oI 3, .val (.ref ar), oI fi, oI se, .val (.ref d), .unset, .unset, .unset] [])) (fun t k => XS.astore X166.here hx rfl (hb hby at_180) rfl rfl (l' := #[oI p0, oI p1, oI p2, oI 4, oI z121_0, oI 128, oI 3, .val (.ref ar), oI fi, oI se, .val (.ref d), .unset, .unset, .unset]) rfl k) ?_
    refine own_st (fr' := (mkF m 184 #[oI p0, oI p1, oI p2, oI 4, oI z121_0, oI 128, oI 3, .val (.ref ar), oI fi, oI se, .val (.ref d), .unset, .unset, .unset] [(.ref d)])) (fun t k => XS.aload X166.here hx rfl (hb hby at_182) rfl rfl k) ?_
    refine own_callV X166 hx hZ (y := (⟨"com/example/linkvouch/linkvouch/apk/Der", "content", "()[B"⟩ : MethodName)) (z := (⟨"com/example/linkvouch/linkvouch/apk/Der", "content", "()[B"⟩ : MethodName)) hown (hw _ (List.mem_of_getElem? (i := 33) rfl)) (hw _ (List.mem_of_getElem? (i := 34) rfl)) (notFace_of_selects (args := #[]) (mvT hZ (hw _ (List.mem_of_getElem? (i := 36) rfl)))) (hw _ (List.mem_of_getElem? (i := 36) rfl)) (hw _ (List.mem_of_getElem? (i := 35) rfl)) (hw _ (List.mem_of_getElem? (i := 10) rfl)) (hw _ (List.mem_of_getElem? (i := 37) rfl)) (by decide) (a := d) (argsL := []) (rest := []) (W := 0) (rm_cont4 l Z a0 hw [] d ar ff T166.heap n0 (Nat.le_trans (Nat.le_trans (Nat.le_trans (Nat.le_trans (Nat.le_trans (Nat.le_trans (Nat.le_trans Z0 K160.1) (Nat.le_of_eq (Wr.size W161).symm)) (Nat.le_of_eq (Wr.size W162).symm)) (Nat.le_of_eq (Wr.size W163).symm)) (Nat.le_of_eq (Wr.size W164).symm)) (Nat.le_of_eq (Wr.size W165).symm)) K166.1) Fd0 (VF.keep K166 nin0) ((Exa.wr W165 (Exa.wr W164 (Exa.wr W163 (Exa.wr W162 (Exa.wr W161 EA))))).keep K166) Fd4 Fd3) rfl Ed (by rw [hml]; rfl) (lenOf pd_8 rfl) rfl (Nat.le_of_eq rfl) (hb hby at_184) (by decide) (by decide) (by decide) (by decide) ?_
    intro v167 T167 L167 X167 hQ167
    obtain ⟨⟨co, gc, rfl, hco, VC, hgc⟩, Nq167, K167⟩ := hQ167
    have N167 := Fr.app N166 Nq167
    refine own_st (fr' := (mkF m 189 #[oI p0, oI p1, oI p2, oI 4, oI z121_0, oI 128, oI 3, .val (.ref ar), oI fi, oI se, .val (.ref d), .val (.ref co), .unset, .unset] [])) (fun t k => XS.astore X167.here hx rfl (hb hby at_187) rfl rfl (l' := #[oI p0, oI p1, oI p2, oI 4, oI z121_0, oI 128, oI 3, .val (.ref ar), oI fi, oI se, .val (.ref d), .val (.ref co), .unset, .unset]) rfl k) ?_
    refine own_st (fr' := (mkF m 191 #[oI p0, oI p1, oI p2, oI 4, oI z121_0, oI 128, oI 3, .val (.ref ar), oI fi, oI se, .val (.ref d), .val (.ref co), .unset, .unset] [(.ref d)])) (fun t k => XS.aload X167.here hx rfl (hb hby at_189) rfl rfl k) ?_
    refine own_callV X167 hx hZ (y := (⟨"com/example/linkvouch/linkvouch/apk/Der", "encoded", "()[B"⟩ : MethodName)) (z := (⟨"com/example/linkvouch/linkvouch/apk/Der", "encoded", "()[B"⟩ : MethodName)) hown (hw _ (List.mem_of_getElem? (i := 56) rfl)) (hw _ (List.mem_of_getElem? (i := 57) rfl)) (notFace_of_selects (args := #[]) (mvT hZ (hw _ (List.mem_of_getElem? (i := 59) rfl)))) (hw _ (List.mem_of_getElem? (i := 59) rfl)) (hw _ (List.mem_of_getElem? (i := 58) rfl)) (hw _ (List.mem_of_getElem? (i := 10) rfl)) (hw _ (List.mem_of_getElem? (i := 60) rfl)) (by decide) (a := d) (argsL := []) (rest := []) (W := 0) (rm_enc4 l Z a0 hw [] d ar ff T167.heap n0 (Nat.le_trans (Nat.le_trans (Nat.le_trans (Nat.le_trans (Nat.le_trans (Nat.le_trans (Nat.le_trans (Nat.le_trans Z0 K160.1) (Nat.le_of_eq (Wr.size W161).symm)) (Nat.le_of_eq (Wr.size W162).symm)) (Nat.le_of_eq (Wr.size W163).symm)) (Nat.le_of_eq (Wr.size W164).symm)) (Nat.le_of_eq (Wr.size W165).symm)) K166.1) K167.1) (Fd0.keep K167 nin0) ((VF.keep K166 nin0).keep K167 nin0) (((Exa.wr W165 (Exa.wr W164 (Exa.wr W163 (Exa.wr W162 (Exa.wr W161 EA))))).keep K166).keep K167) (Fd4.keep K167 nin0) (Fd2.keep K167 nin0)) rfl (Ed.keep K167) (by rw [hml]; rfl) (lenOf pd_8 rfl) rfl (Nat.le_of_eq rfl) (hb hby at_191) (by decide) (by decide) (by decide) (by decide) ?_
    intro v168 T168 L168 X168 hQ168
    obtain ⟨⟨ec, rfl, hec, VE⟩, Nq168, K168⟩ := hQ168
    have N168 := Fr.app N167 Nq168
    refine own_st (fr' := (mkF m 196 #[oI p0, oI p1, oI p2, oI 4, oI z121_0, oI 128, oI 3, .val (.ref ar), oI fi, oI se, .val (.ref d), .val (.ref co), .val (.ref ec), .unset] [])) (fun t k => XS.astore X168.here hx rfl (hb hby at_194) rfl rfl (l' := #[oI p0, oI p1, oI p2, oI 4, oI z121_0, oI 128, oI 3, .val (.ref ar), oI fi, oI se, .val (.ref d), .val (.ref co), .val (.ref ec), .unset]) rfl k) ?_
    refine own_st (fr' := (mkF m 198 #[oI p0, oI p1, oI p2, oI 4, oI z121_0, oI 128, oI 3, .val (.ref ar), oI fi, oI se, .val (.ref d), .val (.ref co), .val (.ref ec), .unset] [(.ref d)])) (fun t k => XS.aload X168.here hx rfl (hb hby at_196) rfl rfl k) ?_
    refine own_callV X168 hx hZ (y := (⟨"com/example/linkvouch/linkvouch/apk/Der", "tag", "()I"⟩ : MethodName)) (z := (⟨"com/example/linkvouch/linkvouch/apk/Der", "tag", "()I"⟩ : MethodName)) hown (hw _ (List.mem_of_getElem? (i := 70) rfl)) (hw _ (List.mem_of_getElem? (i := 71) rfl)) (notFace_of_selects (args := #[]) (mvT hZ (hw _ (List.mem_of_getElem? (i := 73) rfl)))) (hw _ (List.mem_of_getElem? (i := 73) rfl)) (hw _ (List.mem_of_getElem? (i := 72) rfl)) (hw _ (List.mem_of_getElem? (i := 10) rfl)) (hw _ (List.mem_of_getElem? (i := 74) rfl)) (by decide) (a := d) (argsL := []) (rest := []) (W := 0) (rm_tag l Z a0 hw [] d z121_0 T168.heap n0 (Nat.le_trans (Nat.le_trans (Nat.le_trans (Nat.le_trans (Nat.le_trans (Nat.le_trans (Nat.le_trans (Nat.le_trans (Nat.le_trans Z0 K160.1) (Nat.le_of_eq (Wr.size W161).symm)) (Nat.le_of_eq (Wr.size W162).symm)) (Nat.le_of_eq (Wr.size W163).symm)) (Nat.le_of_eq (Wr.size W164).symm)) (Nat.le_of_eq (Wr.size W165).symm)) K166.1) K167.1) K168.1) ((Fd1.keep K167 nin0).keep K168 nin0)) rfl ((Ed.keep K167).keep K168) (by rw [hml]; rfl) (lenOf pd_9 rfl) rfl (Nat.le_of_eq rfl) (hb hby at_198) (by decide) (by decide) (by decide) (by decide) ?_
    intro v169 T169 L169 X169 hQ169
    obtain ⟨rfl, Nq169, eq169⟩ := hQ169
    have N169 := Fr.app N168 Nq169
    refine own_st (fr' := (mkF m 203 #[oI p0, oI p1, oI p2, oI 4, oI z121_0, oI 128, oI 3, .val (.ref ar), oI fi, oI se, .val (.ref d), .val (.ref co), .val (.ref ec), .unset] [(.int z121_0), (.int z121_0)])) (fun t k => XS.iload X169.here hx rfl (hb hby at_201) rfl  k) ?_
    refine own_st (fr' := (mkF m 206 #[oI p0, oI p1, oI p2, oI 4, oI z121_0, oI 128, oI 3, .val (.ref ar), oI fi, oI se, .val (.ref d), .val (.ref co), .val (.ref ec), .unset] [])) (fun t k => XS.icmpNo X169.here hx rfl (hb hby at_203) rfl (own_teq (x := z121_0) (y := z121_0) (show z121_0.toInt = z121_0.toInt from rfl)).2 k) ?_
    refine own_st (fr' := (mkF m 207 #[oI p0, oI p1, oI p2, oI 4, oI z121_0, oI 128, oI 3, .val (.ref ar), oI fi, oI se, .val (.ref d), .val (.ref co), .val (.ref ec), .unset] [(.int 1)])) (fun t k => XS.iconst X169.here hx rfl (hb hby at_206) k) ?_
    refine own_st (fr' := (mkF m 211 #[oI p0, oI p1, oI p2, oI 4, oI z121_0, oI 128, oI 3, .val (.ref ar), oI fi, oI se, .val (.ref d), .val (.ref co), .val (.ref ec), .unset] [(.int 1)])) (fun t k => XS.goto X169.here hx rfl (pc0 := 207) (pc' := 211) rfl (hb hby at_207) (by decide) (by decide) k) ?_
    refine own_st (fr' := (mkF m 213 #[oI p0, oI p1, oI p2, oI 4, oI z121_0, oI 128, oI 3, .val (.ref ar), oI fi, oI se, .val (.ref d), .val (.ref co), .val (.ref ec), oI 1] [])) (fun t k => XS.istore X169.here hx rfl (hb hby at_211) rfl  (l' := #[oI p0, oI p1, oI p2, oI 4, oI z121_0, oI 128, oI 3, .val (.ref ar), oI fi, oI se, .val (.ref d), .val (.ref co), .val (.ref ec), oI 1]) rfl k) ?_
    refine own_st (fr' := (mkF m 215 #[oI p0, oI p1, oI p2, oI 4, oI z121_0, oI 128, oI 3, .val (.ref ar), oI fi, oI se, .val (.ref d), .val (.ref co), .val (.ref ec), oI 1] [(.int 1)])) (fun t k => XS.iload X169.here hx rfl (hb hby at_213) rfl  k) ?_
    refine own_st (fr' := (mkF m 218 #[oI p0, oI p1, oI p2, oI 4, oI z121_0, oI 128, oI 3, .val (.ref ar), oI fi, oI se, .val (.ref d), .val (.ref co), .val (.ref ec), oI 1] [])) (fun t k => XS.ifNo X169.here hx rfl (hb hby at_215) rfl ((if0 _ _).trans (own_feq (x := (1 : Int32)) (y := (0 : Int32)) (show ¬ 1 = 0 from by decide)).1) k) ?_
    refine own_st (fr' := (mkF m 220 #[oI p0, oI p1, oI p2, oI 4, oI z121_0, oI 128, oI 3, .val (.ref ar), oI fi, oI se, .val (.ref d), .val (.ref co), .val (.ref ec), oI 1] [(.ref co)])) (fun t k => XS.aload X169.here hx rfl (hb hby at_218) rfl rfl k) ?_
    refine own_alen X169 hx hZ eq169 (VC.keep K168 nin0) (hb hby at_220) ?_
    refine own_st (fr' := (mkF m 223 #[oI p0, oI p1, oI p2, oI 4, oI z121_0, oI 128, oI 3, .val (.ref ar), oI fi, oI se, .val (.ref d), .val (.ref co), .val (.ref ec), oI 1] [(.int 128), (.int 128)])) (fun t k => XS.iload X169.here hx rfl (hb hby at_221) rfl  k) ?_
    refine own_st (fr' := (mkF m 226 #[oI p0, oI p1, oI p2, oI 4, oI z121_0, oI 128, oI 3, .val (.ref ar), oI fi, oI se, .val (.ref d), .val (.ref co), .val (.ref ec), oI 1] [])) (fun t k => XS.icmpNo X169.here hx rfl (hb hby at_223) rfl (own_teq (x := (128 : Int32)) (y := (128 : Int32)) (show 128 = 128 from by decide)).2 k) ?_
    refine own_st (fr' := (mkF m 227 #[oI p0, oI p1, oI p2, oI 4, oI z121_0, oI 128, oI 3, .val (.ref ar), oI fi, oI se, .val (.ref d), .val (.ref co), .val (.ref ec), oI 1] [(.int 1)])) (fun t k => XS.iconst X169.here hx rfl (hb hby at_226) k) ?_
    refine own_st (fr' := (mkF m 231 #[oI p0, oI p1, oI p2, oI 4, oI z121_0, oI 128, oI 3, .val (.ref ar), oI fi, oI se, .val (.ref d), .val (.ref co), .val (.ref ec), oI 1] [(.int 1)])) (fun t k => XS.goto X169.here hx rfl (pc0 := 227) (pc' := 231) rfl (hb hby at_227) (by decide) (by decide) k) ?_
    refine own_st (fr' := (mkF m 233 #[oI p0, oI p1, oI p2, oI 4, oI z121_0, oI 128, oI 3, .val (.ref ar), oI fi, oI se, .val (.ref d), .val (.ref co), .val (.ref ec), oI 1] [])) (fun t k => XS.istore X169.here hx rfl (hb hby at_231) rfl  (l' := #[oI p0, oI p1, oI p2, oI 4, oI z121_0, oI 128, oI 3, .val (.ref ar), oI fi, oI se, .val (.ref d), .val (.ref co), .val (.ref ec), oI 1]) rfl k) ?_
    refine own_st (fr' := (mkF m 235 #[oI p0, oI p1, oI p2, oI 4, oI z121_0, oI 128, oI 3, .val (.ref ar), oI fi, oI se, .val (.ref d), .val (.ref co), .val (.ref ec), oI 1] [(.int 1)])) (fun t k => XS.iload X169.here hx rfl (hb hby at_233) rfl  k) ?_
    refine own_st (fr' := (mkF m 238 #[oI p0, oI p1, oI p2, oI 4, oI z121_0, oI 128, oI 3, .val (.ref ar), oI fi, oI se, .val (.ref d), .val (.ref co), .val (.ref ec), oI 1] [])) (fun t k => XS.ifNo X169.here hx rfl (hb hby at_235) rfl ((if0 _ _).trans (own_feq (x := (1 : Int32)) (y := (0 : Int32)) (show ¬ 1 = 0 from by decide)).1) k) ?_
    refine own_st (fr' := (mkF m 240 #[oI p0, oI p1, oI p2, oI 4, oI z121_0, oI 128, oI 3, .val (.ref ar), oI fi, oI se, .val (.ref d), .val (.ref co), .val (.ref ec), oI 1] [(.ref ec)])) (fun t k => XS.aload X169.here hx rfl (hb hby at_238) rfl rfl k) ?_
    refine own_alen X169 hx hZ eq169 VE (hb hby at_240) ?_
    refine own_st (fr' := (mkF m 243 #[oI p0, oI p1, oI p2, oI 4, oI z121_0, oI 128, oI 3, .val (.ref ar), oI fi, oI se, .val (.ref d), .val (.ref co), .val (.ref ec), oI 1] [(.ref ar), (.int 131)])) (fun t k => XS.aload X169.here hx rfl (hb hby at_241) rfl rfl k) ?_
    refine own_alen X169 hx hZ eq169 (((VF.keep K166 nin0).keep K167 nin0).keep K168 nin0) (hb hby at_243) ?_
    refine own_st (fr' := (mkF m 247 #[oI p0, oI p1, oI p2, oI 4, oI z121_0, oI 128, oI 3, .val (.ref ar), oI fi, oI se, .val (.ref d), .val (.ref co), .val (.ref ec), oI 1] [])) (fun t k => XS.icmpNo X169.here hx rfl (hb hby at_244) rfl (own_teq (x := (131 : Int32)) (y := (131 : Int32)) (show 131 = 131 from by decide)).2 k) ?_
    refine own_st (fr' := (mkF m 248 #[oI p0, oI p1, oI p2, oI 4, oI z121_0, oI 128, oI 3, .val (.ref ar), oI fi, oI se, .val (.ref d), .val (.ref co), .val (.ref ec), oI 1] [(.int 1)])) (fun t k => XS.iconst X169.here hx rfl (hb hby at_247) k) ?_
    refine own_st (fr' := (mkF m 252 #[oI p0, oI p1, oI p2, oI 4, oI z121_0, oI 128, oI 3, .val (.ref ar), oI fi, oI se, .val (.ref d), .val (.ref co), .val (.ref ec), oI 1] [(.int 1)])) (fun t k => XS.goto X169.here hx rfl (pc0 := 248) (pc' := 252) rfl (hb hby at_248) (by decide) (by decide) k) ?_
    refine own_st (fr' := (mkF m 254 #[oI p0, oI p1, oI p2, oI 4, oI z121_0, oI 128, oI 3, .val (.ref ar), oI fi, oI se, .val (.ref d), .val (.ref co), .val (.ref ec), oI 1] [])) (fun t k => XS.istore X169.here hx rfl (hb hby at_252) rfl  (l' := #[oI p0, oI p1, oI p2, oI 4, oI z121_0, oI 128, oI 3, .val (.ref ar), oI fi, oI se, .val (.ref d), .val (.ref co), .val (.ref ec), oI 1]) rfl k) ?_
    refine own_st (fr' := (mkF m 256 #[oI p0, oI p1, oI p2, oI 4, oI z121_0, oI 128, oI 3, .val (.ref ar), oI fi, oI se, .val (.ref d), .val (.ref co), .val (.ref ec), oI 1] [(.int 1)])) (fun t k => XS.iload X169.here hx rfl (hb hby at_254) rfl  k) ?_
    refine own_st (fr' := (mkF m 259 #[oI p0, oI p1, oI p2, oI 4, oI z121_0, oI 128, oI 3, .val (.ref ar), oI fi, oI se, .val (.ref d), .val (.ref co), .val (.ref ec), oI 1] [])) (fun t k => XS.ifNo X169.here hx rfl (hb hby at_256) rfl ((if0 _ _).trans (own_feq (x := (1 : Int32)) (y := (0 : Int32)) (show ¬ 1 = 0 from by decide)).1) k) ?_
    refine own_st (fr' := (mkF m 261 #[oI p0, oI p1, oI p2, oI 4, oI z121_0, oI 128, oI 3, .val (.ref ar), oI fi, oI se, .val (.ref d), .val (.ref co), .val (.ref ec), oI 1] [(.ref ec)])) (fun t k => XS.aload X169.here hx rfl (hb hby at_259) rfl rfl k) ?_
    refine own_st (fr' := (mkF m 262 #[oI p0, oI p1, oI p2, oI 4, oI z121_0, oI 128, oI 3, .val (.ref ar), oI fi, oI se, .val (.ref d), .val (.ref co), .val (.ref ec), oI 1] [(.int 0), (.ref ec)])) (fun t k => XS.iconst X169.here hx rfl (hb hby at_261) k) ?_
    refine own_baload (j := (0 : Int32)) X169 hx hZ eq169 VE (by decide) (by decide) (v := (.int tb)) (hv0) (hb hby at_262) ?_
    refine own_st (fr' := (mkF m 265 #[oI p0, oI p1, oI p2, oI 4, oI z121_0, oI 128, oI 3, .val (.ref ar), oI fi, oI se, .val (.ref d), .val (.ref co), .val (.ref ec), oI 1] [(.ref ar), (.int tb)])) (fun t k => XS.aload X169.here hx rfl (hb hby at_263) rfl rfl k) ?_
    refine own_st (fr' := (mkF m 266 #[oI p0, oI p1, oI p2, oI 4, oI z121_0, oI 128, oI 3, .val (.ref ar), oI fi, oI se, .val (.ref d), .val (.ref co), .val (.ref ec), oI 1] [(.int 0), (.ref ar), (.int tb)])) (fun t k => XS.iconst X169.here hx rfl (hb hby at_265) k) ?_
    refine own_baload (j := (0 : Int32)) X169 hx hZ eq169 (((VF.keep K166 nin0).keep K167 nin0).keep K168 nin0) (by decide) (by decide) (v := (.int tb)) (hv0) (hb hby at_266) ?_
    refine own_st (fr' := (mkF m 270 #[oI p0, oI p1, oI p2, oI 4, oI z121_0, oI 128, oI 3, .val (.ref ar), oI fi, oI se, .val (.ref d), .val (.ref co), .val (.ref ec), oI 1] [])) (fun t k => XS.icmpNo X169.here hx rfl (hb hby at_267) rfl (own_teq (x := tb) (y := tb) (show tb.toInt = tb.toInt from rfl)).2 k) ?_
    refine own_st (fr' := (mkF m 272 #[oI p0, oI p1, oI p2, oI 4, oI z121_0, oI 128, oI 3, .val (.ref ar), oI fi, oI se, .val (.ref d), .val (.ref co), .val (.ref ec), oI 1] [(.ref ec)])) (fun t k => XS.aload X169.here hx rfl (hb hby at_270) rfl rfl k) ?_
    refine own_st (fr' := (mkF m 273 #[oI p0, oI p1, oI p2, oI 4, oI z121_0, oI 128, oI 3, .val (.ref ar), oI fi, oI se, .val (.ref d), .val (.ref co), .val (.ref ec), oI 1] [(.int 1), (.ref ec)])) (fun t k => XS.iconst X169.here hx rfl (hb hby at_272) k) ?_
    refine own_baload (j := (1 : Int32)) X169 hx hZ eq169 VE (by decide) (by decide) (v := (.int (-127 : Int32))) (hv1) (hb hby at_273) ?_
    refine own_st (fr' := (mkF m 276 #[oI p0, oI p1, oI p2, oI 4, oI z121_0, oI 128, oI 3, .val (.ref ar), oI fi, oI se, .val (.ref d), .val (.ref co), .val (.ref ec), oI 1] [(.ref ar), (.int (-127 : Int32))])) (fun t k => XS.aload X169.here hx rfl (hb hby at_274) rfl rfl k) ?_
    refine own_st (fr' := (mkF m 277 #[oI p0, oI p1, oI p2, oI 4, oI z121_0, oI 128, oI 3, .val (.ref ar), oI fi, oI se, .val (.ref d), .val (.ref co), .val (.ref ec), oI 1] [(.int 1), (.ref ar), (.int (-127 : Int32))])) (fun t k => XS.iconst X169.here hx rfl (hb hby at_276) k) ?_
    refine own_baload (j := (1 : Int32)) X169 hx hZ eq169 (((VF.keep K166 nin0).keep K167 nin0).keep K168 nin0) (by decide) (by decide) (v := (.int (-127 : Int32))) (hv1) (hb hby at_277) ?_
    refine own_st (fr' := (mkF m 281 #[oI p0, oI p1, oI p2, oI 4, oI z121_0, oI 128, oI 3, .val (.ref ar), oI fi, oI se, .val (.ref d), .val (.ref co), .val (.ref ec), oI 1] [])) (fun t k => XS.icmpNo X169.here hx rfl (hb hby at_278) rfl (own_teq (x := (-127 : Int32)) (y := (-127 : Int32)) (show (-127) = (-127) from by decide)).2 k) ?_
    refine own_st (fr' := (mkF m 283 #[oI p0, oI p1, oI p2, oI 4, oI z121_0, oI 128, oI 3, .val (.ref ar), oI fi, oI se, .val (.ref d), .val (.ref co), .val (.ref ec), oI 1] [(.ref ec)])) (fun t k => XS.aload X169.here hx rfl (hb hby at_281) rfl rfl k) ?_
    refine own_st (fr' := (mkF m 285 #[oI p0, oI p1, oI p2, oI 4, oI z121_0, oI 128, oI 3, .val (.ref ar), oI fi, oI se, .val (.ref d), .val (.ref co), .val (.ref ec), oI 1] [(.int 3), (.ref ec)])) (fun t k => XS.iload X169.here hx rfl (hb hby at_283) rfl  k) ?_
    refine own_st (fr' := (mkF m 286 #[oI p0, oI p1, oI p2, oI 4, oI z121_0, oI 128, oI 3, .val (.ref ar), oI fi, oI se, .val (.ref d), .val (.ref co), .val (.ref ec), oI 1] [(.int 1), (.int 3), (.ref ec)])) (fun t k => XS.iconst X169.here hx rfl (hb hby at_285) k) ?_
    refine own_st (fr' := (mkF m 287 #[oI p0, oI p1, oI p2, oI 4, oI z121_0, oI 128, oI 3, .val (.ref ar), oI fi, oI se, .val (.ref d), .val (.ref co), .val (.ref ec), oI 1] [(.int 2), (.ref ec)])) (fun t k => XS.isub X169.here hx rfl (hb hby at_286) rfl k) ?_
    refine own_baload (j := (2 : Int32)) X169 hx hZ eq169 VE (by decide) (by decide) (v := (.int (-128 : Int32))) (hv2) (hb hby at_287) ?_
    refine own_st (fr' := (mkF m 290 #[oI p0, oI p1, oI p2, oI 4, oI z121_0, oI 128, oI 3, .val (.ref ar), oI fi, oI se, .val (.ref d), .val (.ref co), .val (.ref ec), oI 1] [(.ref ar), (.int (-128 : Int32))])) (fun t k => XS.aload X169.here hx rfl (hb hby at_288) rfl rfl k) ?_
    refine own_st (fr' := (mkF m 292 #[oI p0, oI p1, oI p2, oI 4, oI z121_0, oI 128, oI 3, .val (.ref ar), oI fi, oI se, .val (.ref d), .val (.ref co), .val (.ref ec), oI 1] [(.int 3), (.ref ar), (.int (-128 : Int32))])) (fun t k => XS.iload X169.here hx rfl (hb hby at_290) rfl  k) ?_
    refine own_st (fr' := (mkF m 293 #[oI p0, oI p1, oI p2, oI 4, oI z121_0, oI 128, oI 3, .val (.ref ar), oI fi, oI se, .val (.ref d), .val (.ref co), .val (.ref ec), oI 1] [(.int 1), (.int 3), (.ref ar), (.int (-128 : Int32))])) (fun t k => XS.iconst X169.here hx rfl (hb hby at_292) k) ?_
    refine own_st (fr' := (mkF m 294 #[oI p0, oI p1, oI p2, oI 4, oI z121_0, oI 128, oI 3, .val (.ref ar), oI fi, oI se, .val (.ref d), .val (.ref co), .val (.ref ec), oI 1] [(.int 2), (.ref ar), (.int (-128 : Int32))])) (fun t k => XS.isub X169.here hx rfl (hb hby at_293) rfl k) ?_
    refine own_baload (j := (2 : Int32)) X169 hx hZ eq169 (((VF.keep K166 nin0).keep K167 nin0).keep K168 nin0) (by decide) (by decide) (v := (.int (-128 : Int32))) (hv2) (hb hby at_294) ?_
    refine own_st (fr' := (mkF m 298 #[oI p0, oI p1, oI p2, oI 4, oI z121_0, oI 128, oI 3, .val (.ref ar), oI fi, oI se, .val (.ref d), .val (.ref co), .val (.ref ec), oI 1] [])) (fun t k => XS.icmpNo X169.here hx rfl (hb hby at_295) rfl (own_teq (x := (-128 : Int32)) (y := (-128 : Int32)) (show (-128) = (-128) from by decide)).2 k) ?_
    refine own_st (fr' := (mkF m 299 #[oI p0, oI p1, oI p2, oI 4, oI z121_0, oI 128, oI 3, .val (.ref ar), oI fi, oI se, .val (.ref d), .val (.ref co), .val (.ref ec), oI 1] [(.int 1)])) (fun t k => XS.iconst X169.here hx rfl (hb hby at_298) k) ?_
    refine own_st (fr' := (mkF m 303 #[oI p0, oI p1, oI p2, oI 4, oI z121_0, oI 128, oI 3, .val (.ref ar), oI fi, oI se, .val (.ref d), .val (.ref co), .val (.ref ec), oI 1] [(.int 1)])) (fun t k => XS.goto X169.here hx rfl (pc0 := 299) (pc' := 303) rfl (hb hby at_299) (by decide) (by decide) k) ?_
    refine own_st (fr' := (mkF m 305 #[oI p0, oI p1, oI p2, oI 4, oI z121_0, oI 128, oI 3, .val (.ref ar), oI fi, oI se, .val (.ref d), .val (.ref co), .val (.ref ec), oI 1] [])) (fun t k => XS.istore X169.here hx rfl (hb hby at_303) rfl  (l' := #[oI p0, oI p1, oI p2, oI 4, oI z121_0, oI 128, oI 3, .val (.ref ar), oI fi, oI se, .val (.ref d), .val (.ref co), .val (.ref ec), oI 1]) rfl k) ?_
    refine own_st (fr' := (mkF m 307 #[oI p0, oI p1, oI p2, oI 4, oI z121_0, oI 128, oI 3, .val (.ref ar), oI fi, oI se, .val (.ref d), .val (.ref co), .val (.ref ec), oI 1] [(.int 1)])) (fun t k => XS.iload X169.here hx rfl (hb hby at_305) rfl  k) ?_
    refine own_st (fr' := (mkF m 310 #[oI p0, oI p1, oI p2, oI 4, oI z121_0, oI 128, oI 3, .val (.ref ar), oI fi, oI se, .val (.ref d), .val (.ref co), .val (.ref ec), oI 1] [])) (fun t k => XS.ifNo X169.here hx rfl (hb hby at_307) rfl ((if0 _ _).trans (own_feq (x := (1 : Int32)) (y := (0 : Int32)) (show ¬ 1 = 0 from by decide)).1) k) ?_
    refine own_st (fr' := (mkF m 312 #[oI p0, oI p1, oI p2, oI 4, oI z121_0, oI 128, oI 3, .val (.ref ar), oI fi, oI se, .val (.ref d), .val (.ref co), .val (.ref ec), oI 1] [(.int 128)])) (fun t k => XS.iload X169.here hx rfl (hb hby at_310) rfl  k) ?_
    refine own_st (fr' := (mkF m 313 #[oI p0, oI p1, oI p2, oI 4, oI z121_0, oI 128, oI 3, .val (.ref ar), oI fi, oI se, .val (.ref d), .val (.ref co), .val (.ref ec), oI 1] [(.int 1), (.int 128)])) (fun t k => XS.iconst X169.here hx rfl (hb hby at_312) k) ?_
    refine own_st (fr' := (mkF m 316 #[oI p0, oI p1, oI p2, oI 4, oI z121_0, oI 128, oI 3, .val (.ref ar), oI fi, oI se, .val (.ref d), .val (.ref co), .val (.ref ec), oI 1] [])) (fun t k => XS.icmpNo X169.here hx rfl (hb hby at_313) rfl (own_flt (x := (128 : Int32)) (y := (1 : Int32)) (show ¬ 128 < 1 from by decide)).1 k) ?_
    refine own_st (fr' := (mkF m 318 #[oI p0, oI p1, oI p2, oI 4, oI z121_0, oI 128, oI 3, .val (.ref ar), oI fi, oI se, .val (.ref d), .val (.ref co), .val (.ref ec), oI 1] [(.ref co)])) (fun t k => XS.aload X169.here hx rfl (hb hby at_316) rfl rfl k) ?_
    refine own_st (fr' := (mkF m 319 #[oI p0, oI p1, oI p2, oI 4, oI z121_0, oI 128, oI 3, .val (.ref ar), oI fi, oI se, .val (.ref d), .val (.ref co), .val (.ref ec), oI 1] [(.int 0), (.ref co)])) (fun t k => XS.iconst X169.here hx rfl (hb hby at_318) k) ?_
    refine own_baload (j := (0 : Int32)) X169 hx hZ eq169 (VC.keep K168 nin0) (by decide) (by decide) (v := (.int fi)) ((hgc 0 (by decide)).trans hv3) (hb hby at_319) ?_
    refine own_st (fr' := (mkF m 322 #[oI p0, oI p1, oI p2, oI 4, oI z121_0, oI 128, oI 3, .val (.ref ar), oI fi, oI se, .val (.ref d), .val (.ref co), .val (.ref ec), oI 1] [(.int fi), (.int fi)])) (fun t k => XS.iload X169.here hx rfl (hb hby at_320) rfl  k) ?_
    refine own_st (fr' := (mkF m 325 #[oI p0, oI p1, oI p2, oI 4, oI z121_0, oI 128, oI 3, .val (.ref ar), oI fi, oI se, .val (.ref d), .val (.ref co), .val (.ref ec), oI 1] [])) (fun t k => XS.icmpNo X169.here hx rfl (hb hby at_322) rfl (own_teq (x := fi) (y := fi) (show fi.toInt = fi.toInt from rfl)).2 k) ?_
    refine own_st (fr' := (mkF m 327 #[oI p0, oI p1, oI p2, oI 4, oI z121_0, oI 128, oI 3, .val (.ref ar), oI fi, oI se, .val (.ref d), .val (.ref co), .val (.ref ec), oI 1] [(.ref ec)])) (fun t k => XS.aload X169.here hx rfl (hb hby at_325) rfl rfl k) ?_
    refine own_st (fr' := (mkF m 329 #[oI p0, oI p1, oI p2, oI 4, oI z121_0, oI 128, oI 3, .val (.ref ar), oI fi, oI se, .val (.ref d), .val (.ref co), .val (.ref ec), oI 1] [(.int 3), (.ref ec)])) (fun t k => XS.iload X169.here hx rfl (hb hby at_327) rfl  k) ?_
    refine own_baload (j := (3 : Int32)) X169 hx hZ eq169 VE (by decide) (by decide) (v := (.int fi)) (hv3) (hb hby at_329) ?_
    refine own_st (fr' := (mkF m 332 #[oI p0, oI p1, oI p2, oI 4, oI z121_0, oI 128, oI 3, .val (.ref ar), oI fi, oI se, .val (.ref d), .val (.ref co), .val (.ref ec), oI 1] [(.int fi), (.int fi)])) (fun t k => XS.iload X169.here hx rfl (hb hby at_330) rfl  k) ?_
    refine own_st (fr' := (mkF m 335 #[oI p0, oI p1, oI p2, oI 4, oI z121_0, oI 128, oI 3, .val (.ref ar), oI fi, oI se, .val (.ref d), .val (.ref co), .val (.ref ec), oI 1] [])) (fun t k => XS.icmpNo X169.here hx rfl (hb hby at_332) rfl (own_teq (x := fi) (y := fi) (show fi.toInt = fi.toInt from rfl)).2 k) ?_
    refine own_st (fr' := (mkF m 336 #[oI p0, oI p1, oI p2, oI 4, oI z121_0, oI 128, oI 3, .val (.ref ar), oI fi, oI se, .val (.ref d), .val (.ref co), .val (.ref ec), oI 1] [(.int 1)])) (fun t k => XS.iconst X169.here hx rfl (hb hby at_335) k) ?_
    refine own_st (fr' := (mkF m 340 #[oI p0, oI p1, oI p2, oI 4, oI z121_0, oI 128, oI 3, .val (.ref ar), oI fi, oI se, .val (.ref d), .val (.ref co), .val (.ref ec), oI 1] [(.int 1)])) (fun t k => XS.goto X169.here hx rfl (pc0 := 336) (pc' := 340) rfl (hb hby at_336) (by decide) (by decide) k) ?_
    refine own_st (fr' := (mkF m 342 #[oI p0, oI p1, oI p2, oI 4, oI z121_0, oI 128, oI 3, .val (.ref ar), oI fi, oI se, .val (.ref d), .val (.ref co), .val (.ref ec), oI 1] [])) (fun t k => XS.istore X169.here hx rfl (hb hby at_340) rfl  (l' := #[oI p0, oI p1, oI p2, oI 4, oI z121_0, oI 128, oI 3, .val (.ref ar), oI fi, oI se, .val (.ref d), .val (.ref co), .val (.ref ec), oI 1]) rfl k) ?_
    refine own_st (fr' := (mkF m 344 #[oI p0, oI p1, oI p2, oI 4, oI z121_0, oI 128, oI 3, .val (.ref ar), oI fi, oI se, .val (.ref d), .val (.ref co), .val (.ref ec), oI 1] [(.int 1)])) (fun t k => XS.iload X169.here hx rfl (hb hby at_342) rfl  k) ?_
    refine own_st (fr' := (mkF m 347 #[oI p0, oI p1, oI p2, oI 4, oI z121_0, oI 128, oI 3, .val (.ref ar), oI fi, oI se, .val (.ref d), .val (.ref co), .val (.ref ec), oI 1] [])) (fun t k => XS.ifNo X169.here hx rfl (hb hby at_344) rfl ((if0 _ _).trans (own_feq (x := (1 : Int32)) (y := (0 : Int32)) (show ¬ 1 = 0 from by decide)).1) k) ?_
    refine own_st (fr' := (mkF m 349 #[oI p0, oI p1, oI p2, oI 4, oI z121_0, oI 128, oI 3, .val (.ref ar), oI fi, oI se, .val (.ref d), .val (.ref co), .val (.ref ec), oI 1] [(.int 128)])) (fun t k => XS.iload X169.here hx rfl (hb hby at_347) rfl  k) ?_
    refine own_st (fr' := (mkF m 350 #[oI p0, oI p1, oI p2, oI 4, oI z121_0, oI 128, oI 3, .val (.ref ar), oI fi, oI se, .val (.ref d), .val (.ref co), .val (.ref ec), oI 1] [(.int 2), (.int 128)])) (fun t k => XS.iconst X169.here hx rfl (hb hby at_349) k) ?_
    refine own_st (fr' := (mkF m 353 #[oI p0, oI p1, oI p2, oI 4, oI z121_0, oI 128, oI 3, .val (.ref ar), oI fi, oI se, .val (.ref d), .val (.ref co), .val (.ref ec), oI 1] [])) (fun t k => XS.icmpNo X169.here hx rfl (hb hby at_350) rfl (own_flt (x := (128 : Int32)) (y := (2 : Int32)) (show ¬ 128 < 2 from by decide)).1 k) ?_
    refine own_st (fr' := (mkF m 355 #[oI p0, oI p1, oI p2, oI 4, oI z121_0, oI 128, oI 3, .val (.ref ar), oI fi, oI se, .val (.ref d), .val (.ref co), .val (.ref ec), oI 1] [(.ref co)])) (fun t k => XS.aload X169.here hx rfl (hb hby at_353) rfl rfl k) ?_
    refine own_st (fr' := (mkF m 357 #[oI p0, oI p1, oI p2, oI 4, oI z121_0, oI 128, oI 3, .val (.ref ar), oI fi, oI se, .val (.ref d), .val (.ref co), .val (.ref ec), oI 1] [(.int 128), (.ref co)])) (fun t k => XS.iload X169.here hx rfl (hb hby at_355) rfl  k) ?_
    refine own_st (fr' := (mkF m 358 #[oI p0, oI p1, oI p2, oI 4, oI z121_0, oI 128, oI 3, .val (.ref ar), oI fi, oI se, .val (.ref d), .val (.ref co), .val (.ref ec), oI 1] [(.int 1), (.int 128), (.ref co)])) (fun t k => XS.iconst X169.here hx rfl (hb hby at_357) k) ?_
    refine own_st (fr' := (mkF m 359 #[oI p0, oI p1, oI p2, oI 4, oI z121_0, oI 128, oI 3, .val (.ref ar), oI fi, oI se, .val (.ref d), .val (.ref co), .val (.ref ec), oI 1] [(.int 127), (.ref co)])) (fun t k => XS.isub X169.here hx rfl (hb hby at_358) rfl k) ?_
    refine own_baload (j := (127 : Int32)) X169 hx hZ eq169 (VC.keep K168 nin0) (by decide) (by decide) (v := (.int se)) ((hgc 127 (by decide)).trans hv130) (hb hby at_359) ?_
    refine own_st (fr' := (mkF m 362 #[oI p0, oI p1, oI p2, oI 4, oI z121_0, oI 128, oI 3, .val (.ref ar), oI fi, oI se, .val (.ref d), .val (.ref co), .val (.ref ec), oI 1] [(.int se), (.int se)])) (fun t k => XS.iload X169.here hx rfl (hb hby at_360) rfl  k) ?_
    refine own_st (fr' := (mkF m 365 #[oI p0, oI p1, oI p2, oI 4, oI z121_0, oI 128, oI 3, .val (.ref ar), oI fi, oI se, .val (.ref d), .val (.ref co), .val (.ref ec), oI 1] [])) (fun t k => XS.icmpNo X169.here hx rfl (hb hby at_362) rfl (own_teq (x := se) (y := se) (show se.toInt = se.toInt from rfl)).2 k) ?_
    refine own_st (fr' := (mkF m 367 #[oI p0, oI p1, oI p2, oI 4, oI z121_0, oI 128, oI 3, .val (.ref ar), oI fi, oI se, .val (.ref d), .val (.ref co), .val (.ref ec), oI 1] [(.ref ec)])) (fun t k => XS.aload X169.here hx rfl (hb hby at_365) rfl rfl k) ?_
    refine own_st (fr' := (mkF m 369 #[oI p0, oI p1, oI p2, oI 4, oI z121_0, oI 128, oI 3, .val (.ref ar), oI fi, oI se, .val (.ref d), .val (.ref co), .val (.ref ec), oI 1] [(.ref ar), (.ref ec)])) (fun t k => XS.aload X169.here hx rfl (hb hby at_367) rfl rfl k) ?_
    refine own_alen X169 hx hZ eq169 (((VF.keep K166 nin0).keep K167 nin0).keep K168 nin0) (hb hby at_369) ?_
    refine own_st (fr' := (mkF m 371 #[oI p0, oI p1, oI p2, oI 4, oI z121_0, oI 128, oI 3, .val (.ref ar), oI fi, oI se, .val (.ref d), .val (.ref co), .val (.ref ec), oI 1] [(.int 1), (.int 131), (.ref ec)])) (fun t k => XS.iconst X169.here hx rfl (hb hby at_370) k) ?_
    refine own_st (fr' := (mkF m 372 #[oI p0, oI p1, oI p2, oI 4, oI z121_0, oI 128, oI 3, .val (.ref ar), oI fi, oI se, .val (.ref d), .val (.ref co), .val (.ref ec), oI 1] [(.int 130), (.ref ec)])) (fun t k => XS.isub X169.here hx rfl (hb hby at_371) rfl k) ?_
    refine own_baload (j := (130 : Int32)) X169 hx hZ eq169 VE (by decide) (by decide) (v := (.int se)) (hv130) (hb hby at_372) ?_
    refine own_st (fr' := (mkF m 375 #[oI p0, oI p1, oI p2, oI 4, oI z121_0, oI 128, oI 3, .val (.ref ar), oI fi, oI se, .val (.ref d), .val (.ref co), .val (.ref ec), oI 1] [(.int se), (.int se)])) (fun t k => XS.iload X169.here hx rfl (hb hby at_373) rfl  k) ?_
    refine own_st (fr' := (mkF m 378 #[oI p0, oI p1, oI p2, oI 4, oI z121_0, oI 128, oI 3, .val (.ref ar), oI fi, oI se, .val (.ref d), .val (.ref co), .val (.ref ec), oI 1] [])) (fun t k => XS.icmpNo X169.here hx rfl (hb hby at_375) rfl (own_teq (x := se) (y := se) (show se.toInt = se.toInt from rfl)).2 k) ?_
    refine own_st (fr' := (mkF m 379 #[oI p0, oI p1, oI p2, oI 4, oI z121_0, oI 128, oI 3, .val (.ref ar), oI fi, oI se, .val (.ref d), .val (.ref co), .val (.ref ec), oI 1] [(.int 1)])) (fun t k => XS.iconst X169.here hx rfl (hb hby at_378) k) ?_
    refine own_st (fr' := (mkF m 383 #[oI p0, oI p1, oI p2, oI 4, oI z121_0, oI 128, oI 3, .val (.ref ar), oI fi, oI se, .val (.ref d), .val (.ref co), .val (.ref ec), oI 1] [(.int 1)])) (fun t k => XS.goto X169.here hx rfl (pc0 := 379) (pc' := 383) rfl (hb hby at_379) (by decide) (by decide) k) ?_
    refine own_st (fr' := (mkF m 385 #[oI p0, oI p1, oI p2, oI 4, oI z121_0, oI 128, oI 3, .val (.ref ar), oI fi, oI se, .val (.ref d), .val (.ref co), .val (.ref ec), oI 1] [])) (fun t k => XS.istore X169.here hx rfl (hb hby at_383) rfl  (l' := #[oI p0, oI p1, oI p2, oI 4, oI z121_0, oI 128, oI 3, .val (.ref ar), oI fi, oI se, .val (.ref d), .val (.ref co), .val (.ref ec), oI 1]) rfl k) ?_
    refine own_st (fr' := (mkF m 387 #[oI p0, oI p1, oI p2, oI 4, oI z121_0, oI 128, oI 3, .val (.ref ar), oI fi, oI se, .val (.ref d), .val (.ref co), .val (.ref ec), oI 1] [(.int 1)])) (fun t k => XS.iload X169.here hx rfl (hb hby at_385) rfl  k) ?_
    refine own_st (fr' := (mkF m 390 #[oI p0, oI p1, oI p2, oI 4, oI z121_0, oI 128, oI 3, .val (.ref ar), oI fi, oI se, .val (.ref d), .val (.ref co), .val (.ref ec), oI 1] [])) (fun t k => XS.ifNo X169.here hx rfl (hb hby at_387) rfl ((if0 _ _).trans (own_feq (x := (1 : Int32)) (y := (0 : Int32)) (show ¬ 1 = 0 from by decide)).1) k) ?_
    refine own_st (fr' := (mkF m 392 #[oI p0, oI p1, oI p2, oI 4, oI z121_0, oI 128, oI 3, .val (.ref ar), oI fi, oI se, .val (.ref d), .val (.ref co), .val (.ref ec), oI 1] [(.int 128)])) (fun t k => XS.iload X169.here hx rfl (hb hby at_390) rfl  k) ?_
    refine own_st (fr' := (mkF m 393 #[oI p0, oI p1, oI p2, oI 4, oI z121_0, oI 128, oI 3, .val (.ref ar), oI fi, oI se, .val (.ref d), .val (.ref co), .val (.ref ec), oI 1] [(.int 3), (.int 128)])) (fun t k => XS.iconst X169.here hx rfl (hb hby at_392) k) ?_
    refine own_st (fr' := (mkF m 396 #[oI p0, oI p1, oI p2, oI 4, oI z121_0, oI 128, oI 3, .val (.ref ar), oI fi, oI se, .val (.ref d), .val (.ref co), .val (.ref ec), oI 1] [])) (fun t k => XS.icmpNo X169.here hx rfl (hb hby at_393) rfl (own_flt (x := (128 : Int32)) (y := (3 : Int32)) (show ¬ 128 < 3 from by decide)).1 k) ?_
    refine own_st (fr' := (mkF m 398 #[oI p0, oI p1, oI p2, oI 4, oI z121_0, oI 128, oI 3, .val (.ref ar), oI fi, oI se, .val (.ref d), .val (.ref co), .val (.ref ec), oI 1] [(.ref co)])) (fun t k => XS.aload X169.here hx rfl (hb hby at_396) rfl rfl k) ?_
    refine own_st (fr' := (mkF m 399 #[oI p0, oI p1, oI p2, oI 4, oI z121_0, oI 128, oI 3, .val (.ref ar), oI fi, oI se, .val (.ref d), .val (.ref co), .val (.ref ec), oI 1] [(.int 1), (.ref co)])) (fun t k => XS.iconst X169.here hx rfl (hb hby at_398) k) ?_
    refine own_baload (j := (1 : Int32)) X169 hx hZ eq169 (VC.keep K168 nin0) (by decide) (by decide) (v := (.int 0)) ((hgc 1 (by decide)).trans hvz) (hb hby at_399) ?_
    refine own_st (fr' := (mkF m 403 #[oI p0, oI p1, oI p2, oI 4, oI z121_0, oI 128, oI 3, .val (.ref ar), oI fi, oI se, .val (.ref d), .val (.ref co), .val (.ref ec), oI 1] [])) (fun t k => XS.ifNo X169.here hx rfl (hb hby at_400) rfl ((if0 _ _).trans (own_teq (x := (0 : Int32)) (y := (0 : Int32)) (show 0 = 0 from by decide)).2) k) ?_
    refine own_st (fr' := (mkF m 405 #[oI p0, oI p1, oI p2, oI 4, oI z121_0, oI 128, oI 3, .val (.ref ar), oI fi, oI se, .val (.ref d), .val (.ref co), .val (.ref ec), oI 1] [(.ref ec)])) (fun t k => XS.aload X169.here hx rfl (hb hby at_403) rfl rfl k) ?_
    refine own_st (fr' := (mkF m 407 #[oI p0, oI p1, oI p2, oI 4, oI z121_0, oI 128, oI 3, .val (.ref ar), oI fi, oI se, .val (.ref d), .val (.ref co), .val (.ref ec), oI 1] [(.int 3), (.ref ec)])) (fun t k => XS.iload X169.here hx rfl (hb hby at_405) rfl  k) ?_
    refine own_st (fr' := (mkF m 408 #[oI p0, oI p1, oI p2, oI 4, oI z121_0, oI 128, oI 3, .val (.ref ar), oI fi, oI se, .val (.ref d), .val (.ref co), .val (.ref ec), oI 1] [(.int 1), (.int 3), (.ref ec)])) (fun t k => XS.iconst X169.here hx rfl (hb hby at_407) k) ?_
    refine own_st (fr' := (mkF m 409 #[oI p0, oI p1, oI p2, oI 4, oI z121_0, oI 128, oI 3, .val (.ref ar), oI fi, oI se, .val (.ref d), .val (.ref co), .val (.ref ec), oI 1] [(.int 4), (.ref ec)])) (fun t k => XS.iadd X169.here hx rfl (hb hby at_408) rfl k) ?_
    refine own_baload (j := (4 : Int32)) X169 hx hZ eq169 VE (by decide) (by decide) (v := (.int 0)) (hvz) (hb hby at_409) ?_
    refine own_st (fr' := (mkF m 413 #[oI p0, oI p1, oI p2, oI 4, oI z121_0, oI 128, oI 3, .val (.ref ar), oI fi, oI se, .val (.ref d), .val (.ref co), .val (.ref ec), oI 1] [])) (fun t k => XS.ifNo X169.here hx rfl (hb hby at_410) rfl ((if0 _ _).trans (own_teq (x := (0 : Int32)) (y := (0 : Int32)) (show 0 = 0 from by decide)).2) k) ?_
    refine own_st (fr' := (mkF m 414 #[oI p0, oI p1, oI p2, oI 4, oI z121_0, oI 128, oI 3, .val (.ref ar), oI fi, oI se, .val (.ref d), .val (.ref co), .val (.ref ec), oI 1] [(.int 1)])) (fun t k => XS.iconst X169.here hx rfl (hb hby at_413) k) ?_
    refine own_st (fr' := (mkF m 418 #[oI p0, oI p1, oI p2, oI 4, oI z121_0, oI 128, oI 3, .val (.ref ar), oI fi, oI se, .val (.ref d), .val (.ref co), .val (.ref ec), oI 1] [(.int 1)])) (fun t k => XS.goto X169.here hx rfl (pc0 := 414) (pc' := 418) rfl (hb hby at_414) (by decide) (by decide) k) ?_
    refine own_st (fr' := (mkF m 420 #[oI p0, oI p1, oI p2, oI 4, oI z121_0, oI 128, oI 3, .val (.ref ar), oI fi, oI se, .val (.ref d), .val (.ref co), .val (.ref ec), oI 1] [])) (fun t k => XS.istore X169.here hx rfl (hb hby at_418) rfl  (l' := #[oI p0, oI p1, oI p2, oI 4, oI z121_0, oI 128, oI 3, .val (.ref ar), oI fi, oI se, .val (.ref d), .val (.ref co), .val (.ref ec), oI 1]) rfl k) ?_
    refine own_st (fr' := (mkF m 422 #[oI p0, oI p1, oI p2, oI 4, oI z121_0, oI 128, oI 3, .val (.ref ar), oI fi, oI se, .val (.ref d), .val (.ref co), .val (.ref ec), oI 1] [(.int 1)])) (fun t k => XS.iload X169.here hx rfl (hb hby at_420) rfl  k) ?_
    exact own_retZ X169 hx hlk hret (Or.inr rfl) (hb hby at_422) (by decide) (by decide) (⟨rfl, N169⟩)
  · obtain rfl : fo = (5 : Int32) := Int32.toInt_inj.mp hfo
    refine own_st (fr' := (mkF m 29 #[oI p0, oI p1, oI p2, oI 5, oI z121_0, .unset, .unset, .unset, .unset, .unset, .unset, .unset, .unset, .unset] [(.int 5)])) (fun t k => XS.iloadN X0.here hx rfl (hb hby at_28) rfl  k) ?_
    refine own_callS X0 hx hZ (y := (⟨"com/example/linkvouch/linkvouch/apk/DerParsePinLaw", "lengthOf", "(I)I"⟩ : MethodName)) hown (hw _ (List.mem_of_getElem? (i := 0) rfl)) (hw _ (List.mem_of_getElem? (i := 1) rfl)) (hw _ (List.mem_of_getElem? (i := 2) rfl)) (hw _ (List.mem_of_getElem? (i := 3) rfl)) (by decide) (argsL := [(.int 5)]) (rest := []) (W := 0) (rm_len5 l Z a0 hw []  h0 n0 Z0 ) e0 (by rw [hml]; rfl) (lenOf pd_5 rfl) rfl (Nat.le_of_eq rfl) (hb hby at_29) (by decide) (by decide) (by decide) (by decide) ?_
    intro v170 T170 L170 X170 hQ170
    obtain ⟨rfl, Nq170, eq170⟩ := hQ170
    have N170 := Fr.app N0 Nq170
    refine own_st (fr' := (mkF m 34 #[oI p0, oI p1, oI p2, oI 5, oI z121_0, oI 255, .unset, .unset, .unset, .unset, .unset, .unset, .unset, .unset] [])) (fun t k => XS.istore X170.here hx rfl (hb hby at_32) rfl  (l' := #[oI p0, oI p1, oI p2, oI 5, oI z121_0, oI 255, .unset, .unset, .unset, .unset, .unset, .unset, .unset, .unset]) rfl k) ?_
    refine own_st (fr' := (mkF m 35 #[oI p0, oI p1, oI p2, oI 5, oI z121_0, oI 255, .unset, .unset, .unset, .unset, .unset, .unset, .unset, .unset] [(.int 5)])) (fun t k => XS.iloadN X170.here hx rfl (hb hby at_34) rfl  k) ?_
    refine own_st (fr' := (mkF m 36 #[oI p0, oI p1, oI p2, oI 5, oI z121_0, oI 255, .unset, .unset, .unset, .unset, .unset, .unset, .unset, .unset] [(.int 4), (.int 5)])) (fun t k => XS.iconst X170.here hx rfl (hb hby at_35) k) ?_
    refine own_st (fr' := (mkF m 45 #[oI p0, oI p1, oI p2, oI 5, oI z121_0, oI 255, .unset, .unset, .unset, .unset, .unset, .unset, .unset, .unset] [])) (fun t k => XS.icmpYes X170.here hx rfl (pc0 := 36) (pc' := 45) rfl (hb hby at_36) rfl (own_flt (x := (5 : Int32)) (y := (4 : Int32)) (show ¬ 5 < 4 from by decide)).2.1 (by decide) (by decide) k) ?_
    refine own_st (fr' := (mkF m 46 #[oI p0, oI p1, oI p2, oI 5, oI z121_0, oI 255, .unset, .unset, .unset, .unset, .unset, .unset, .unset, .unset] [(.int 5)])) (fun t k => XS.iloadN X170.here hx rfl (hb hby at_45) rfl  k) ?_
    refine own_st (fr' := (mkF m 48 #[oI p0, oI p1, oI p2, oI 5, oI z121_0, oI 255, .unset, .unset, .unset, .unset, .unset, .unset, .unset, .unset] [(.int 6), (.int 5)])) (fun t k => XS.bipush X170.here hx rfl (hb hby at_46) k) ?_
    refine own_st (fr' := (mkF m 51 #[oI p0, oI p1, oI p2, oI 5, oI z121_0, oI 255, .unset, .unset, .unset, .unset, .unset, .unset, .unset, .unset] [])) (fun t k => XS.icmpNo X170.here hx rfl (hb hby at_48) rfl (own_tlt (x := (5 : Int32)) (y := (6 : Int32)) (show 5 < 6 from by decide)).2.1 k) ?_
    refine own_st (fr' := (mkF m 52 #[oI p0, oI p1, oI p2, oI 5, oI z121_0, oI 255, .unset, .unset, .unset, .unset, .unset, .unset, .unset, .unset] [(.int 3)])) (fun t k => XS.iconst X170.here hx rfl (hb hby at_51) k) ?_
    refine own_st (fr' := (mkF m 54 #[oI p0, oI p1, oI p2, oI 5, oI z121_0, oI 255, oI 3, .unset, .unset, .unset, .unset, .unset, .unset, .unset] [])) (fun t k => XS.istore X170.here hx rfl (hb hby at_52) rfl  (l' := #[oI p0, oI p1, oI p2, oI 5, oI z121_0, oI 255, oI 3, .unset, .unset, .unset, .unset, .unset, .unset, .unset]) rfl k) ?_
    refine own_st (fr' := (mkF m 60 #[oI p0, oI p1, oI p2, oI 5, oI z121_0, oI 255, oI 3, .unset, .unset, .unset, .unset, .unset, .unset, .unset] [])) (fun t k => XS.goto X170.here hx rfl (pc0 := 54) (pc' := 60) rfl (hb hby at_54) (by decide) (by decide) k) ?_
    refine own_st (fr' := (mkF m 61 #[oI p0, oI p1, oI p2, oI 5, oI z121_0, oI 255, oI 3, .unset, .unset, .unset, .unset, .unset, .unset, .unset] [(.int 5)])) (fun t k => XS.iloadN X170.here hx rfl (hb hby at_60) rfl  k) ?_
    refine own_callS X170 hx hZ (y := (⟨"com/example/linkvouch/linkvouch/apk/DerParsePinLaw", "alloc", "(I)[B"⟩ : MethodName)) hown (hw _ (List.mem_of_getElem? (i := 4) rfl)) (hw _ (List.mem_of_getElem? (i := 5) rfl)) (hw _ (List.mem_of_getElem? (i := 2) rfl)) (hw _ (List.mem_of_getElem? (i := 6) rfl)) (by decide) (argsL := [(.int 5)]) (rest := []) (W := 0) (rm_alloc5 l Z a0 hw []  h0 n0 Z0 ) eq170 (by rw [hml]; rfl) (lenOf pd_6 rfl) rfl (Nat.le_of_eq rfl) (hb hby at_61) (by decide) (by decide) (by decide) (by decide) ?_
    intro v171 T171 L171 X171 hQ171
    obtain ⟨⟨ar, rfl, har, ge_ar, VA, EA⟩, Nq171, K171⟩ := hQ171
    have N171 := Fr.app N170 Nq171
    refine own_st (fr' := (mkF m 66 #[oI p0, oI p1, oI p2, oI 5, oI z121_0, oI 255, oI 3, .val (.ref ar), .unset, .unset, .unset, .unset, .unset, .unset] [])) (fun t k => XS.astore X171.here hx rfl (hb hby at_64) rfl rfl (l' := #[oI p0, oI p1, oI p2, oI 5, oI z121_0, oI 255, oI 3, .val (.ref ar), .unset, .unset, .unset, .unset, .unset, .unset]) rfl k) ?_
    refine own_st (fr' := (mkF m 68 #[oI p0, oI p1, oI p2, oI 5, oI z121_0, oI 255, oI 3, .val (.ref ar), .unset, .unset, .unset, .unset, .unset, .unset] [(.ref ar)])) (fun t k => XS.aload X171.here hx rfl (hb hby at_66) rfl rfl k) ?_
    refine own_st (fr' := (mkF m 69 #[oI p0, oI p1, oI p2, oI 5, oI z121_0, oI 255, oI 3, .val (.ref ar), .unset, .unset, .unset, .unset, .unset, .unset] [(.int 0), (.ref ar)])) (fun t k => XS.iconst X171.here hx rfl (hb hby at_68) k) ?_
    refine own_st (fr' := (mkF m 71 #[oI p0, oI p1, oI p2, oI 5, oI z121_0, oI 255, oI 3, .val (.ref ar), .unset, .unset, .unset, .unset, .unset, .unset] [(.int z121_0), (.int 0), (.ref ar)])) (fun t k => XS.iload X171.here hx rfl (hb hby at_69) rfl  k) ?_
    refine own_st (fr' := (mkF m 72 #[oI p0, oI p1, oI p2, oI 5, oI z121_0, oI 255, oI 3, .val (.ref ar), .unset, .unset, .unset, .unset, .unset, .unset] [(.int (z121_0.toInt8.toInt32)), (.int 0), (.ref ar)])) (fun t k => XS.i2b X171.here hx rfl (hb hby at_71) rfl k) ?_
    have qb := c_i2b z121_0
    generalize hTB : (z121_0.toInt8.toInt32) = tb at qb ⊢
    have hnb : nar .byte tb = tb := own_narb qb.2.1 (by omega)
    refine own_bastore X171 hx hZ rfl VA (by decide) (by decide) (hb hby at_72) ?_
    intro T172 h172 X172 e172 W172 V172
    have N172 := Fr.snoc X172 N171 ge_ar
    refine own_st (fr' := (mkF m 74 #[oI p0, oI p1, oI p2, oI 5, oI z121_0, oI 255, oI 3, .val (.ref ar), .unset, .unset, .unset, .unset, .unset, .unset] [(.int 5)])) (fun t k => XS.iloadN X172.here hx rfl (hb hby at_73) rfl  k) ?_
    refine own_st (fr' := (mkF m 75 #[oI p0, oI p1, oI p2, oI 5, oI z121_0, oI 255, oI 3, .val (.ref ar), .unset, .unset, .unset, .unset, .unset, .unset] [(.int 4), (.int 5)])) (fun t k => XS.iconst X172.here hx rfl (hb hby at_74) k) ?_
    refine own_st (fr' := (mkF m 88 #[oI p0, oI p1, oI p2, oI 5, oI z121_0, oI 255, oI 3, .val (.ref ar), .unset, .unset, .unset, .unset, .unset, .unset] [])) (fun t k => XS.icmpYes X172.here hx rfl (pc0 := 75) (pc' := 88) rfl (hb hby at_75) rfl (own_flt (x := (5 : Int32)) (y := (4 : Int32)) (show ¬ 5 < 4 from by decide)).2.1 (by decide) (by decide) k) ?_
    refine own_st (fr' := (mkF m 89 #[oI p0, oI p1, oI p2, oI 5, oI z121_0, oI 255, oI 3, .val (.ref ar), .unset, .unset, .unset, .unset, .unset, .unset] [(.int 5)])) (fun t k => XS.iloadN X172.here hx rfl (hb hby at_88) rfl  k) ?_
    refine own_st (fr' := (mkF m 91 #[oI p0, oI p1, oI p2, oI 5, oI z121_0, oI 255, oI 3, .val (.ref ar), .unset, .unset, .unset, .unset, .unset, .unset] [(.int 6), (.int 5)])) (fun t k => XS.bipush X172.here hx rfl (hb hby at_89) k) ?_
    refine own_st (fr' := (mkF m 94 #[oI p0, oI p1, oI p2, oI 5, oI z121_0, oI 255, oI 3, .val (.ref ar), .unset, .unset, .unset, .unset, .unset, .unset] [])) (fun t k => XS.icmpNo X172.here hx rfl (hb hby at_91) rfl (own_tlt (x := (5 : Int32)) (y := (6 : Int32)) (show 5 < 6 from by decide)).2.1 k) ?_
    refine own_st (fr' := (mkF m 96 #[oI p0, oI p1, oI p2, oI 5, oI z121_0, oI 255, oI 3, .val (.ref ar), .unset, .unset, .unset, .unset, .unset, .unset] [(.ref ar)])) (fun t k => XS.aload X172.here hx rfl (hb hby at_94) rfl rfl k) ?_
    refine own_st (fr' := (mkF m 97 #[oI p0, oI p1, oI p2, oI 5, oI z121_0, oI 255, oI 3, .val (.ref ar), .unset, .unset, .unset, .unset, .unset, .unset] [(.int 1), (.ref ar)])) (fun t k => XS.iconst X172.here hx rfl (hb hby at_96) k) ?_
    refine own_st (fr' := (mkF m 99 #[oI p0, oI p1, oI p2, oI 5, oI z121_0, oI 255, oI 3, .val (.ref ar), .unset, .unset, .unset, .unset, .unset, .unset] [(.int (-127 : Int32)), (.int 1), (.ref ar)])) (fun t k => XS.bipush X172.here hx rfl (hb hby at_97) k) ?_
    refine own_bastore X172 hx hZ e172 V172 (by decide) (by decide) (hb hby at_99) ?_
    intro T173 h173 X173 e173 W173 V173
    have N173 := Fr.snoc X173 N172 ge_ar
    refine own_st (fr' := (mkF m 102 #[oI p0, oI p1, oI p2, oI 5, oI z121_0, oI 255, oI 3, .val (.ref ar), .unset, .unset, .unset, .unset, .unset, .unset] [(.ref ar)])) (fun t k => XS.aload X173.here hx rfl (hb hby at_100) rfl rfl k) ?_
    refine own_st (fr' := (mkF m 103 #[oI p0, oI p1, oI p2, oI 5, oI z121_0, oI 255, oI 3, .val (.ref ar), .unset, .unset, .unset, .unset, .unset, .unset] [(.int 2), (.ref ar)])) (fun t k => XS.iconst X173.here hx rfl (hb hby at_102) k) ?_
    refine own_st (fr' := (mkF m 105 #[oI p0, oI p1, oI p2, oI 5, oI z121_0, oI 255, oI 3, .val (.ref ar), .unset, .unset, .unset, .unset, .unset, .unset] [(.int 255), (.int 2), (.ref ar)])) (fun t k => XS.iload X173.here hx rfl (hb hby at_103) rfl  k) ?_
    refine own_st (fr' := (mkF m 106 #[oI p0, oI p1, oI p2, oI 5, oI z121_0, oI 255, oI 3, .val (.ref ar), .unset, .unset, .unset, .unset, .unset, .unset] [(.int (-1 : Int32)), (.int 2), (.ref ar)])) (fun t k => XS.i2b X173.here hx rfl (hb hby at_105) rfl k) ?_
    refine own_bastore X173 hx hZ e173 V173 (by decide) (by decide) (hb hby at_106) ?_
    intro T174 h174 X174 e174 W174 V174
    have N174 := Fr.snoc X174 N173 ge_ar
    refine own_st (fr' := (mkF m 133 #[oI p0, oI p1, oI p2, oI 5, oI z121_0, oI 255, oI 3, .val (.ref ar), .unset, .unset, .unset, .unset, .unset, .unset] [])) (fun t k => XS.goto X174.here hx rfl (pc0 := 107) (pc' := 133) rfl (hb hby at_107) (by decide) (by decide) k) ?_
    refine own_st (fr' := (mkF m 134 #[oI p0, oI p1, oI p2, oI 5, oI z121_0, oI 255, oI 3, .val (.ref ar), .unset, .unset, .unset, .unset, .unset, .unset] [(.int p2)])) (fun t k => XS.iloadN X174.here hx rfl (hb hby at_133) rfl  k) ?_
    refine own_st (fr' := (mkF m 135 #[oI p0, oI p1, oI p2, oI 5, oI z121_0, oI 255, oI 3, .val (.ref ar), .unset, .unset, .unset, .unset, .unset, .unset] [(.int (p2.toInt8.toInt32))])) (fun t k => XS.i2b X174.here hx rfl (hb hby at_134) rfl k) ?_
    refine own_st (fr' := (mkF m 137 #[oI p0, oI p1, oI p2, oI 5, oI z121_0, oI 255, oI 3, .val (.ref ar), .val (.int (p2.toInt8.toInt32)), .unset, .unset, .unset, .unset, .unset] [])) (fun t k => XS.istore X174.here hx rfl (hb hby at_135) rfl  (l' := #[oI p0, oI p1, oI p2, oI 5, oI z121_0, oI 255, oI 3, .val (.ref ar), .val (.int (p2.toInt8.toInt32)), .unset, .unset, .unset, .unset, .unset]) rfl k) ?_
    have q1 := c_i2b p2
    generalize hFI : p2.toInt8.toInt32 = fi at q1 ⊢
    have hnf : nar .byte fi = fi := own_narb q1.2.1 (by omega)
    refine own_st (fr' := (mkF m 138 #[oI p0, oI p1, oI p2, oI 5, oI z121_0, oI 255, oI 3, .val (.ref ar), oI fi, .unset, .unset, .unset, .unset, .unset] [(.int p2)])) (fun t k => XS.iloadN X174.here hx rfl (hb hby at_137) rfl  k) ?_
    refine own_st (fr' := (mkF m 140 #[oI p0, oI p1, oI p2, oI 5, oI z121_0, oI 255, oI 3, .val (.ref ar), oI fi, .unset, .unset, .unset, .unset, .unset] [(.int 8), (.int p2)])) (fun t k => XS.bipush X174.here hx rfl (hb hby at_138) k) ?_
    refine own_st (fr' := (mkF m 141 #[oI p0, oI p1, oI p2, oI 5, oI z121_0, oI 255, oI 3, .val (.ref ar), oI fi, .unset, .unset, .unset, .unset, .unset] [(.int (p2 >>> ((8 : Int32) &&& 31)))])) (fun t k => XS.ishr X174.here hx rfl (hb hby at_140) rfl k) ?_
    refine own_st (fr' := (mkF m 142 #[oI p0, oI p1, oI p2, oI 5, oI z121_0, oI 255, oI 3, .val (.ref ar), oI fi, .unset, .unset, .unset, .unset, .unset] [(.int ((p2 >>> ((8 : Int32) &&& 31)).toInt8.toInt32))])) (fun t k => XS.i2b X174.here hx rfl (hb hby at_141) rfl k) ?_
    refine own_st (fr' := (mkF m 144 #[oI p0, oI p1, oI p2, oI 5, oI z121_0, oI 255, oI 3, .val (.ref ar), oI fi, .val (.int ((p2 >>> ((8 : Int32) &&& 31)).toInt8.toInt32)), .unset, .unset, .unset, .unset] [])) (fun t k => XS.istore X174.here hx rfl (hb hby at_142) rfl  (l' := #[oI p0, oI p1, oI p2, oI 5, oI z121_0, oI 255, oI 3, .val (.ref ar), oI fi, .val (.int ((p2 >>> ((8 : Int32) &&& 31)).toInt8.toInt32)), .unset, .unset, .unset, .unset]) rfl k) ?_
    have q2 := c_i2b (p2 >>> ((8 : Int32) &&& 31))
    generalize hSE : (p2 >>> ((8 : Int32) &&& 31)).toInt8.toInt32 = se at q2 ⊢
    have hns : nar .byte se = se := own_narb q2.2.1 (by omega)
    refine own_st (fr' := (mkF m 146 #[oI p0, oI p1, oI p2, oI 5, oI z121_0, oI 255, oI 3, .val (.ref ar), oI fi, oI se, .unset, .unset, .unset, .unset] [(.int 255)])) (fun t k => XS.iload X174.here hx rfl (hb hby at_144) rfl  k) ?_
    refine own_st (fr' := (mkF m 147 #[oI p0, oI p1, oI p2, oI 5, oI z121_0, oI 255, oI 3, .val (.ref ar), oI fi, oI se, .unset, .unset, .unset, .unset] [(.int 1), (.int 255)])) (fun t k => XS.iconst X174.here hx rfl (hb hby at_146) k) ?_
    refine own_st (fr' := (mkF m 150 #[oI p0, oI p1, oI p2, oI 5, oI z121_0, oI 255, oI 3, .val (.ref ar), oI fi, oI se, .unset, .unset, .unset, .unset] [])) (fun t k => XS.icmpNo X174.here hx rfl (hb hby at_147) rfl (own_flt (x := (255 : Int32)) (y := (1 : Int32)) (show ¬ 255 < 1 from by decide)).1 k) ?_
    refine own_st (fr' := (mkF m 152 #[oI p0, oI p1, oI p2, oI 5, oI z121_0, oI 255, oI 3, .val (.ref ar), oI fi, oI se, .unset, .unset, .unset, .unset] [(.ref ar)])) (fun t k => XS.aload X174.here hx rfl (hb hby at_150) rfl rfl k) ?_
    refine own_st (fr' := (mkF m 154 #[oI p0, oI p1, oI p2, oI 5, oI z121_0, oI 255, oI 3, .val (.ref ar), oI fi, oI se, .unset, .unset, .unset, .unset] [(.int 3), (.ref ar)])) (fun t k => XS.iload X174.here hx rfl (hb hby at_152) rfl  k) ?_
    refine own_st (fr' := (mkF m 156 #[oI p0, oI p1, oI p2, oI 5, oI z121_0, oI 255, oI 3, .val (.ref ar), oI fi, oI se, .unset, .unset, .unset, .unset] [(.int fi), (.int 3), (.ref ar)])) (fun t k => XS.iload X174.here hx rfl (hb hby at_154) rfl  k) ?_
    refine own_bastore X174 hx hZ e174 V174 (by decide) (by decide) (hb hby at_156) ?_
    intro T175 h175 X175 e175 W175 V175
    have N175 := Fr.snoc X175 N174 ge_ar
    refine own_st (fr' := (mkF m 159 #[oI p0, oI p1, oI p2, oI 5, oI z121_0, oI 255, oI 3, .val (.ref ar), oI fi, oI se, .unset, .unset, .unset, .unset] [(.int 255)])) (fun t k => XS.iload X175.here hx rfl (hb hby at_157) rfl  k) ?_
    refine own_st (fr' := (mkF m 160 #[oI p0, oI p1, oI p2, oI 5, oI z121_0, oI 255, oI 3, .val (.ref ar), oI fi, oI se, .unset, .unset, .unset, .unset] [(.int 2), (.int 255)])) (fun t k => XS.iconst X175.here hx rfl (hb hby at_159) k) ?_
    refine own_st (fr' := (mkF m 163 #[oI p0, oI p1, oI p2, oI 5, oI z121_0, oI 255, oI 3, .val (.ref ar), oI fi, oI se, .unset, .unset, .unset, .unset] [])) (fun t k => XS.icmpNo X175.here hx rfl (hb hby at_160) rfl (own_flt (x := (255 : Int32)) (y := (2 : Int32)) (show ¬ 255 < 2 from by decide)).1 k) ?_
    refine own_st (fr' := (mkF m 165 #[oI p0, oI p1, oI p2, oI 5, oI z121_0, oI 255, oI 3, .val (.ref ar), oI fi, oI se, .unset, .unset, .unset, .unset] [(.ref ar)])) (fun t k => XS.aload X175.here hx rfl (hb hby at_163) rfl rfl k) ?_
    refine own_st (fr' := (mkF m 167 #[oI p0, oI p1, oI p2, oI 5, oI z121_0, oI 255, oI 3, .val (.ref ar), oI fi, oI se, .unset, .unset, .unset, .unset] [(.int 3), (.ref ar)])) (fun t k => XS.iload X175.here hx rfl (hb hby at_165) rfl  k) ?_
    refine own_st (fr' := (mkF m 169 #[oI p0, oI p1, oI p2, oI 5, oI z121_0, oI 255, oI 3, .val (.ref ar), oI fi, oI se, .unset, .unset, .unset, .unset] [(.int 255), (.int 3), (.ref ar)])) (fun t k => XS.iload X175.here hx rfl (hb hby at_167) rfl  k) ?_
    refine own_st (fr' := (mkF m 170 #[oI p0, oI p1, oI p2, oI 5, oI z121_0, oI 255, oI 3, .val (.ref ar), oI fi, oI se, .unset, .unset, .unset, .unset] [(.int 258), (.ref ar)])) (fun t k => XS.iadd X175.here hx rfl (hb hby at_169) rfl k) ?_
    refine own_st (fr' := (mkF m 171 #[oI p0, oI p1, oI p2, oI 5, oI z121_0, oI 255, oI 3, .val (.ref ar), oI fi, oI se, .unset, .unset, .unset, .unset] [(.int 1), (.int 258), (.ref ar)])) (fun t k => XS.iconst X175.here hx rfl (hb hby at_170) k) ?_
    refine own_st (fr' := (mkF m 172 #[oI p0, oI p1, oI p2, oI 5, oI z121_0, oI 255, oI 3, .val (.ref ar), oI fi, oI se, .unset, .unset, .unset, .unset] [(.int 257), (.ref ar)])) (fun t k => XS.isub X175.here hx rfl (hb hby at_171) rfl k) ?_
    refine own_st (fr' := (mkF m 174 #[oI p0, oI p1, oI p2, oI 5, oI z121_0, oI 255, oI 3, .val (.ref ar), oI fi, oI se, .unset, .unset, .unset, .unset] [(.int se), (.int 257), (.ref ar)])) (fun t k => XS.iload X175.here hx rfl (hb hby at_172) rfl  k) ?_
    refine own_bastore X175 hx hZ e175 V175 (by decide) (by decide) (hb hby at_174) ?_
    intro T176 h176 X176 e176 W176 V176
    have N176 := Fr.snoc X176 N175 ge_ar
    obtain ⟨ff, VF, hv⟩ : ∃ ff : Nat → Value, own_A Z h176 ar .byte 258 ff ∧ (ff 0 = .int tb ∧ ff 1 = .int (-127 : Int32) ∧ ff 2 = .int (-1 : Int32) ∧ ff 3 = .int fi ∧ ff 257 = .int se ∧ ff 4 = .int 0) := ⟨_, V176, by show Value.int (nar .byte tb) = _; rw [hnb], rfl, rfl, by show Value.int (nar .byte fi) = _; rw [hnf], by show Value.int (nar .byte se) = _; rw [hns], rfl⟩
    obtain ⟨hv0, hv1, hv2, hv3, hv257, hvz⟩ := hv
    have hbk : tb &&& 255 = z121_0 := own_back z121_0 tb hz121.1 hz121.2.1 (by omega)
    refine own_st (fr' := (mkF m 177 #[oI p0, oI p1, oI p2, oI 5, oI z121_0, oI 255, oI 3, .val (.ref ar), oI fi, oI se, .unset, .unset, .unset, .unset] [(.ref ar)])) (fun t k => XS.aload X176.here hx rfl (hb hby at_175) rfl rfl k) ?_
    refine own_callS X176 hx hZ (y := (⟨"com/example/linkvouch/linkvouch/apk/Der", "parse", "([B)Lcom/example/linkvouch/linkvouch/apk/Der;"⟩ : MethodName)) hown (hw _ (List.mem_of_getElem? (i := 8) rfl)) (hw _ (List.mem_of_getElem? (i := 9) rfl)) (hw _ (List.mem_of_getElem? (i := 10) rfl)) (hw _ (List.mem_of_getElem? (i := 11) rfl)) (by decide) (argsL := [(.ref ar)]) (rest := []) (W := 0) (rm_parse5 l Z a0 hw [] ar tb ff h176 n0 (Nat.le_trans (Nat.le_trans (Nat.le_trans (Nat.le_trans (Nat.le_trans (Nat.le_trans Z0 K171.1) (Nat.le_of_eq (Wr.size W172).symm)) (Nat.le_of_eq (Wr.size W173).symm)) (Nat.le_of_eq (Wr.size W174).symm)) (Nat.le_of_eq (Wr.size W175).symm)) (Nat.le_of_eq (Wr.size W176).symm)) VF hv0 hv1 hv2 (by rw [hbk]; exact hz121.2.2)) e176 (by rw [hml]; rfl) (lenOf pd_7 rfl) rfl (Nat.le_of_eq rfl) (hb hby at_177) (by decide) (by decide) (by decide) (by decide) ?_
    intro v177 T177 L177 X177 hQ177
    obtain ⟨⟨d, rfl, hd0, Ed, Fd0, Fd1, Fd2, Fd3, Fd4⟩, Nq177, K177⟩ := hQ177
    rw [hbk] at Fd1
    have N177 := Fr.app N176 Nq177
    refine own_st (fr' := (mkF m 182 #[oI p0, oI p1, oI p2, oI 5, oI z121_0, oI 255, oI 3, .val (.ref ar), oI fi, oI se, .val (.ref d), .unset, .unset, .unset] [])) (fun t k => XS.astore X177.here hx rfl (hb hby at_180) rfl rfl (l' := #[oI p0, oI p1, oI p2, oI 5, oI z121_0, oI 255, oI 3, .val (.ref ar), oI fi, oI se, .val (.ref d), .unset, .unset, .unset]) rfl k) ?_
    refine own_st (fr' := (mkF m 184 #[oI p0, oI p1, oI p2, oI 5, oI z121_0, oI 255, oI 3, .val (.ref ar), oI fi, oI se, .val (.ref d), .unset, .unset, .unset] [(.ref d)])) (fun t k => XS.aload X177.here hx rfl (hb hby at_182) rfl rfl k) ?_
    refine own_callV X177 hx hZ (y := (⟨"com/example/linkvouch/linkvouch/apk/Der", "content", "()[B"⟩ : MethodName)) (z := (⟨"com/example/linkvouch/linkvouch/apk/Der", "content", "()[B"⟩ : MethodName)) hown (hw _ (List.mem_of_getElem? (i := 33) rfl)) (hw _ (List.mem_of_getElem? (i := 34) rfl)) (notFace_of_selects (args := #[]) (mvT hZ (hw _ (List.mem_of_getElem? (i := 36) rfl)))) (hw _ (List.mem_of_getElem? (i := 36) rfl)) (hw _ (List.mem_of_getElem? (i := 35) rfl)) (hw _ (List.mem_of_getElem? (i := 10) rfl)) (hw _ (List.mem_of_getElem? (i := 37) rfl)) (by decide) (a := d) (argsL := []) (rest := []) (W := 0) (rm_cont5 l Z a0 hw [] d ar ff T177.heap n0 (Nat.le_trans (Nat.le_trans (Nat.le_trans (Nat.le_trans (Nat.le_trans (Nat.le_trans (Nat.le_trans Z0 K171.1) (Nat.le_of_eq (Wr.size W172).symm)) (Nat.le_of_eq (Wr.size W173).symm)) (Nat.le_of_eq (Wr.size W174).symm)) (Nat.le_of_eq (Wr.size W175).symm)) (Nat.le_of_eq (Wr.size W176).symm)) K177.1) Fd0 (VF.keep K177 nin0) ((Exa.wr W176 (Exa.wr W175 (Exa.wr W174 (Exa.wr W173 (Exa.wr W172 EA))))).keep K177) Fd4 Fd3) rfl Ed (by rw [hml]; rfl) (lenOf pd_8 rfl) rfl (Nat.le_of_eq rfl) (hb hby at_184) (by decide) (by decide) (by decide) (by decide) ?_
    intro v178 T178 L178 X178 hQ178
    obtain ⟨⟨co, gc, rfl, hco, VC, hgc⟩, Nq178, K178⟩ := hQ178
    have N178 := Fr.app N177 Nq178
    refine own_st (fr' := (mkF m 189 #[oI p0, oI p1, oI p2, oI 5, oI z121_0, oI 255, oI 3, .val (.ref ar), oI fi, oI se, .val (.ref d), .val (.ref co), .unset, .unset] [])) (fun t k => XS.astore X178.here hx rfl (hb hby at_187) rfl rfl (l' := #[oI p0, oI p1, oI p2, oI 5, oI z121_0, oI 255, oI 3, .val (.ref ar), oI fi, oI se, .val (.ref d), .val (.ref co), .unset, .unset]) rfl k) ?_
    refine own_st (fr' := (mkF m 191 #[oI p0, oI p1, oI p2, oI 5, oI z121_0, oI 255, oI 3, .val (.ref ar), oI fi, oI se, .val (.ref d), .val (.ref co), .unset, .unset] [(.ref d)])) (fun t k => XS.aload X178.here hx rfl (hb hby at_189) rfl rfl k) ?_
    refine own_callV X178 hx hZ (y := (⟨"com/example/linkvouch/linkvouch/apk/Der", "encoded", "()[B"⟩ : MethodName)) (z := (⟨"com/example/linkvouch/linkvouch/apk/Der", "encoded", "()[B"⟩ : MethodName)) hown (hw _ (List.mem_of_getElem? (i := 56) rfl)) (hw _ (List.mem_of_getElem? (i := 57) rfl)) (notFace_of_selects (args := #[]) (mvT hZ (hw _ (List.mem_of_getElem? (i := 59) rfl)))) (hw _ (List.mem_of_getElem? (i := 59) rfl)) (hw _ (List.mem_of_getElem? (i := 58) rfl)) (hw _ (List.mem_of_getElem? (i := 10) rfl)) (hw _ (List.mem_of_getElem? (i := 60) rfl)) (by decide) (a := d) (argsL := []) (rest := []) (W := 0) (rm_enc5 l Z a0 hw [] d ar ff T178.heap n0 (Nat.le_trans (Nat.le_trans (Nat.le_trans (Nat.le_trans (Nat.le_trans (Nat.le_trans (Nat.le_trans (Nat.le_trans Z0 K171.1) (Nat.le_of_eq (Wr.size W172).symm)) (Nat.le_of_eq (Wr.size W173).symm)) (Nat.le_of_eq (Wr.size W174).symm)) (Nat.le_of_eq (Wr.size W175).symm)) (Nat.le_of_eq (Wr.size W176).symm)) K177.1) K178.1) (Fd0.keep K178 nin0) ((VF.keep K177 nin0).keep K178 nin0) (((Exa.wr W176 (Exa.wr W175 (Exa.wr W174 (Exa.wr W173 (Exa.wr W172 EA))))).keep K177).keep K178) (Fd4.keep K178 nin0) (Fd2.keep K178 nin0)) rfl (Ed.keep K178) (by rw [hml]; rfl) (lenOf pd_8 rfl) rfl (Nat.le_of_eq rfl) (hb hby at_191) (by decide) (by decide) (by decide) (by decide) ?_
    intro v179 T179 L179 X179 hQ179
    obtain ⟨⟨ec, rfl, hec, VE⟩, Nq179, K179⟩ := hQ179
    have N179 := Fr.app N178 Nq179
    refine own_st (fr' := (mkF m 196 #[oI p0, oI p1, oI p2, oI 5, oI z121_0, oI 255, oI 3, .val (.ref ar), oI fi, oI se, .val (.ref d), .val (.ref co), .val (.ref ec), .unset] [])) (fun t k => XS.astore X179.here hx rfl (hb hby at_194) rfl rfl (l' := #[oI p0, oI p1, oI p2, oI 5, oI z121_0, oI 255, oI 3, .val (.ref ar), oI fi, oI se, .val (.ref d), .val (.ref co), .val (.ref ec), .unset]) rfl k) ?_
    refine own_st (fr' := (mkF m 198 #[oI p0, oI p1, oI p2, oI 5, oI z121_0, oI 255, oI 3, .val (.ref ar), oI fi, oI se, .val (.ref d), .val (.ref co), .val (.ref ec), .unset] [(.ref d)])) (fun t k => XS.aload X179.here hx rfl (hb hby at_196) rfl rfl k) ?_
    refine own_callV X179 hx hZ (y := (⟨"com/example/linkvouch/linkvouch/apk/Der", "tag", "()I"⟩ : MethodName)) (z := (⟨"com/example/linkvouch/linkvouch/apk/Der", "tag", "()I"⟩ : MethodName)) hown (hw _ (List.mem_of_getElem? (i := 70) rfl)) (hw _ (List.mem_of_getElem? (i := 71) rfl)) (notFace_of_selects (args := #[]) (mvT hZ (hw _ (List.mem_of_getElem? (i := 73) rfl)))) (hw _ (List.mem_of_getElem? (i := 73) rfl)) (hw _ (List.mem_of_getElem? (i := 72) rfl)) (hw _ (List.mem_of_getElem? (i := 10) rfl)) (hw _ (List.mem_of_getElem? (i := 74) rfl)) (by decide) (a := d) (argsL := []) (rest := []) (W := 0) (rm_tag l Z a0 hw [] d z121_0 T179.heap n0 (Nat.le_trans (Nat.le_trans (Nat.le_trans (Nat.le_trans (Nat.le_trans (Nat.le_trans (Nat.le_trans (Nat.le_trans (Nat.le_trans Z0 K171.1) (Nat.le_of_eq (Wr.size W172).symm)) (Nat.le_of_eq (Wr.size W173).symm)) (Nat.le_of_eq (Wr.size W174).symm)) (Nat.le_of_eq (Wr.size W175).symm)) (Nat.le_of_eq (Wr.size W176).symm)) K177.1) K178.1) K179.1) ((Fd1.keep K178 nin0).keep K179 nin0)) rfl ((Ed.keep K178).keep K179) (by rw [hml]; rfl) (lenOf pd_9 rfl) rfl (Nat.le_of_eq rfl) (hb hby at_198) (by decide) (by decide) (by decide) (by decide) ?_
    intro v180 T180 L180 X180 hQ180
    obtain ⟨rfl, Nq180, eq180⟩ := hQ180
    have N180 := Fr.app N179 Nq180
    refine own_st (fr' := (mkF m 203 #[oI p0, oI p1, oI p2, oI 5, oI z121_0, oI 255, oI 3, .val (.ref ar), oI fi, oI se, .val (.ref d), .val (.ref co), .val (.ref ec), .unset] [(.int z121_0), (.int z121_0)])) (fun t k => XS.iload X180.here hx rfl (hb hby at_201) rfl  k) ?_
    refine own_st (fr' := (mkF m 206 #[oI p0, oI p1, oI p2, oI 5, oI z121_0, oI 255, oI 3, .val (.ref ar), oI fi, oI se, .val (.ref d), .val (.ref co), .val (.ref ec), .unset] [])) (fun t k => XS.icmpNo X180.here hx rfl (hb hby at_203) rfl (own_teq (x := z121_0) (y := z121_0) (show z121_0.toInt = z121_0.toInt from rfl)).2 k) ?_
    refine own_st (fr' := (mkF m 207 #[oI p0, oI p1, oI p2, oI 5, oI z121_0, oI 255, oI 3, .val (.ref ar), oI fi, oI se, .val (.ref d), .val (.ref co), .val (.ref ec), .unset] [(.int 1)])) (fun t k => XS.iconst X180.here hx rfl (hb hby at_206) k) ?_
    refine own_st (fr' := (mkF m 211 #[oI p0, oI p1, oI p2, oI 5, oI z121_0, oI 255, oI 3, .val (.ref ar), oI fi, oI se, .val (.ref d), .val (.ref co), .val (.ref ec), .unset] [(.int 1)])) (fun t k => XS.goto X180.here hx rfl (pc0 := 207) (pc' := 211) rfl (hb hby at_207) (by decide) (by decide) k) ?_
    refine own_st (fr' := (mkF m 213 #[oI p0, oI p1, oI p2, oI 5, oI z121_0, oI 255, oI 3, .val (.ref ar), oI fi, oI se, .val (.ref d), .val (.ref co), .val (.ref ec), oI 1] [])) (fun t k => XS.istore X180.here hx rfl (hb hby at_211) rfl  (l' := #[oI p0, oI p1, oI p2, oI 5, oI z121_0, oI 255, oI 3, .val (.ref ar), oI fi, oI se, .val (.ref d), .val (.ref co), .val (.ref ec), oI 1]) rfl k) ?_
    refine own_st (fr' := (mkF m 215 #[oI p0, oI p1, oI p2, oI 5, oI z121_0, oI 255, oI 3, .val (.ref ar), oI fi, oI se, .val (.ref d), .val (.ref co), .val (.ref ec), oI 1] [(.int 1)])) (fun t k => XS.iload X180.here hx rfl (hb hby at_213) rfl  k) ?_
    refine own_st (fr' := (mkF m 218 #[oI p0, oI p1, oI p2, oI 5, oI z121_0, oI 255, oI 3, .val (.ref ar), oI fi, oI se, .val (.ref d), .val (.ref co), .val (.ref ec), oI 1] [])) (fun t k => XS.ifNo X180.here hx rfl (hb hby at_215) rfl ((if0 _ _).trans (own_feq (x := (1 : Int32)) (y := (0 : Int32)) (show ¬ 1 = 0 from by decide)).1) k) ?_
    refine own_st (fr' := (mkF m 220 #[oI p0, oI p1, oI p2, oI 5, oI z121_0, oI 255, oI 3, .val (.ref ar), oI fi, oI se, .val (.ref d), .val (.ref co), .val (.ref ec), oI 1] [(.ref co)])) (fun t k => XS.aload X180.here hx rfl (hb hby at_218) rfl rfl k) ?_
    refine own_alen X180 hx hZ eq180 (VC.keep K179 nin0) (hb hby at_220) ?_
    refine own_st (fr' := (mkF m 223 #[oI p0, oI p1, oI p2, oI 5, oI z121_0, oI 255, oI 3, .val (.ref ar), oI fi, oI se, .val (.ref d), .val (.ref co), .val (.ref ec), oI 1] [(.int 255), (.int 255)])) (fun t k => XS.iload X180.here hx rfl (hb hby at_221) rfl  k) ?_
    refine own_st (fr' := (mkF m 226 #[oI p0, oI p1, oI p2, oI 5, oI z121_0, oI 255, oI 3, .val (.ref ar), oI fi, oI se, .val (.ref d), .val (.ref co), .val (.ref ec), oI 1] [])) (fun t k => XS.icmpNo X180.here hx rfl (hb hby at_223) rfl (own_teq (x := (255 : Int32)) (y := (255 : Int32)) (show 255 = 255 from by decide)).2 k) ?_
    refine own_st (fr' := (mkF m 227 #[oI p0, oI p1, oI p2, oI 5, oI z121_0, oI 255, oI 3, .val (.ref ar), oI fi, oI se, .val (.ref d), .val (.ref co), .val (.ref ec), oI 1] [(.int 1)])) (fun t k => XS.iconst X180.here hx rfl (hb hby at_226) k) ?_
    refine own_st (fr' := (mkF m 231 #[oI p0, oI p1, oI p2, oI 5, oI z121_0, oI 255, oI 3, .val (.ref ar), oI fi, oI se, .val (.ref d), .val (.ref co), .val (.ref ec), oI 1] [(.int 1)])) (fun t k => XS.goto X180.here hx rfl (pc0 := 227) (pc' := 231) rfl (hb hby at_227) (by decide) (by decide) k) ?_
    refine own_st (fr' := (mkF m 233 #[oI p0, oI p1, oI p2, oI 5, oI z121_0, oI 255, oI 3, .val (.ref ar), oI fi, oI se, .val (.ref d), .val (.ref co), .val (.ref ec), oI 1] [])) (fun t k => XS.istore X180.here hx rfl (hb hby at_231) rfl  (l' := #[oI p0, oI p1, oI p2, oI 5, oI z121_0, oI 255, oI 3, .val (.ref ar), oI fi, oI se, .val (.ref d), .val (.ref co), .val (.ref ec), oI 1]) rfl k) ?_
    refine own_st (fr' := (mkF m 235 #[oI p0, oI p1, oI p2, oI 5, oI z121_0, oI 255, oI 3, .val (.ref ar), oI fi, oI se, .val (.ref d), .val (.ref co), .val (.ref ec), oI 1] [(.int 1)])) (fun t k => XS.iload X180.here hx rfl (hb hby at_233) rfl  k) ?_
    refine own_st (fr' := (mkF m 238 #[oI p0, oI p1, oI p2, oI 5, oI z121_0, oI 255, oI 3, .val (.ref ar), oI fi, oI se, .val (.ref d), .val (.ref co), .val (.ref ec), oI 1] [])) (fun t k => XS.ifNo X180.here hx rfl (hb hby at_235) rfl ((if0 _ _).trans (own_feq (x := (1 : Int32)) (y := (0 : Int32)) (show ¬ 1 = 0 from by decide)).1) k) ?_
    refine own_st (fr' := (mkF m 240 #[oI p0, oI p1, oI p2, oI 5, oI z121_0, oI 255, oI 3, .val (.ref ar), oI fi, oI se, .val (.ref d), .val (.ref co), .val (.ref ec), oI 1] [(.ref ec)])) (fun t k => XS.aload X180.here hx rfl (hb hby at_238) rfl rfl k) ?_
    refine own_alen X180 hx hZ eq180 VE (hb hby at_240) ?_
    refine own_st (fr' := (mkF m 243 #[oI p0, oI p1, oI p2, oI 5, oI z121_0, oI 255, oI 3, .val (.ref ar), oI fi, oI se, .val (.ref d), .val (.ref co), .val (.ref ec), oI 1] [(.ref ar), (.int 258)])) (fun t k => XS.aload X180.here hx rfl (hb hby at_241) rfl rfl k) ?_
    refine own_alen X180 hx hZ eq180 (((VF.keep K177 nin0).keep K178 nin0).keep K179 nin0) (hb hby at_243) ?_
    refine own_st (fr' := (mkF m 247 #[oI p0, oI p1, oI p2, oI 5, oI z121_0, oI 255, oI 3, .val (.ref ar), oI fi, oI se, .val (.ref d), .val (.ref co), .val (.ref ec), oI 1] [])) (fun t k => XS.icmpNo X180.here hx rfl (hb hby at_244) rfl (own_teq (x := (258 : Int32)) (y := (258 : Int32)) (show 258 = 258 from by decide)).2 k) ?_
    refine own_st (fr' := (mkF m 248 #[oI p0, oI p1, oI p2, oI 5, oI z121_0, oI 255, oI 3, .val (.ref ar), oI fi, oI se, .val (.ref d), .val (.ref co), .val (.ref ec), oI 1] [(.int 1)])) (fun t k => XS.iconst X180.here hx rfl (hb hby at_247) k) ?_
    refine own_st (fr' := (mkF m 252 #[oI p0, oI p1, oI p2, oI 5, oI z121_0, oI 255, oI 3, .val (.ref ar), oI fi, oI se, .val (.ref d), .val (.ref co), .val (.ref ec), oI 1] [(.int 1)])) (fun t k => XS.goto X180.here hx rfl (pc0 := 248) (pc' := 252) rfl (hb hby at_248) (by decide) (by decide) k) ?_
    refine own_st (fr' := (mkF m 254 #[oI p0, oI p1, oI p2, oI 5, oI z121_0, oI 255, oI 3, .val (.ref ar), oI fi, oI se, .val (.ref d), .val (.ref co), .val (.ref ec), oI 1] [])) (fun t k => XS.istore X180.here hx rfl (hb hby at_252) rfl  (l' := #[oI p0, oI p1, oI p2, oI 5, oI z121_0, oI 255, oI 3, .val (.ref ar), oI fi, oI se, .val (.ref d), .val (.ref co), .val (.ref ec), oI 1]) rfl k) ?_
    refine own_st (fr' := (mkF m 256 #[oI p0, oI p1, oI p2, oI 5, oI z121_0, oI 255, oI 3, .val (.ref ar), oI fi, oI se, .val (.ref d), .val (.ref co), .val (.ref ec), oI 1] [(.int 1)])) (fun t k => XS.iload X180.here hx rfl (hb hby at_254) rfl  k) ?_
    refine own_st (fr' := (mkF m 259 #[oI p0, oI p1, oI p2, oI 5, oI z121_0, oI 255, oI 3, .val (.ref ar), oI fi, oI se, .val (.ref d), .val (.ref co), .val (.ref ec), oI 1] [])) (fun t k => XS.ifNo X180.here hx rfl (hb hby at_256) rfl ((if0 _ _).trans (own_feq (x := (1 : Int32)) (y := (0 : Int32)) (show ¬ 1 = 0 from by decide)).1) k) ?_
    refine own_st (fr' := (mkF m 261 #[oI p0, oI p1, oI p2, oI 5, oI z121_0, oI 255, oI 3, .val (.ref ar), oI fi, oI se, .val (.ref d), .val (.ref co), .val (.ref ec), oI 1] [(.ref ec)])) (fun t k => XS.aload X180.here hx rfl (hb hby at_259) rfl rfl k) ?_
    refine own_st (fr' := (mkF m 262 #[oI p0, oI p1, oI p2, oI 5, oI z121_0, oI 255, oI 3, .val (.ref ar), oI fi, oI se, .val (.ref d), .val (.ref co), .val (.ref ec), oI 1] [(.int 0), (.ref ec)])) (fun t k => XS.iconst X180.here hx rfl (hb hby at_261) k) ?_
    refine own_baload (j := (0 : Int32)) X180 hx hZ eq180 VE (by decide) (by decide) (v := (.int tb)) (hv0) (hb hby at_262) ?_
    refine own_st (fr' := (mkF m 265 #[oI p0, oI p1, oI p2, oI 5, oI z121_0, oI 255, oI 3, .val (.ref ar), oI fi, oI se, .val (.ref d), .val (.ref co), .val (.ref ec), oI 1] [(.ref ar), (.int tb)])) (fun t k => XS.aload X180.here hx rfl (hb hby at_263) rfl rfl k) ?_
    refine own_st (fr' := (mkF m 266 #[oI p0, oI p1, oI p2, oI 5, oI z121_0, oI 255, oI 3, .val (.ref ar), oI fi, oI se, .val (.ref d), .val (.ref co), .val (.ref ec), oI 1] [(.int 0), (.ref ar), (.int tb)])) (fun t k => XS.iconst X180.here hx rfl (hb hby at_265) k) ?_
    refine own_baload (j := (0 : Int32)) X180 hx hZ eq180 (((VF.keep K177 nin0).keep K178 nin0).keep K179 nin0) (by decide) (by decide) (v := (.int tb)) (hv0) (hb hby at_266) ?_
    refine own_st (fr' := (mkF m 270 #[oI p0, oI p1, oI p2, oI 5, oI z121_0, oI 255, oI 3, .val (.ref ar), oI fi, oI se, .val (.ref d), .val (.ref co), .val (.ref ec), oI 1] [])) (fun t k => XS.icmpNo X180.here hx rfl (hb hby at_267) rfl (own_teq (x := tb) (y := tb) (show tb.toInt = tb.toInt from rfl)).2 k) ?_
    refine own_st (fr' := (mkF m 272 #[oI p0, oI p1, oI p2, oI 5, oI z121_0, oI 255, oI 3, .val (.ref ar), oI fi, oI se, .val (.ref d), .val (.ref co), .val (.ref ec), oI 1] [(.ref ec)])) (fun t k => XS.aload X180.here hx rfl (hb hby at_270) rfl rfl k) ?_
    refine own_st (fr' := (mkF m 273 #[oI p0, oI p1, oI p2, oI 5, oI z121_0, oI 255, oI 3, .val (.ref ar), oI fi, oI se, .val (.ref d), .val (.ref co), .val (.ref ec), oI 1] [(.int 1), (.ref ec)])) (fun t k => XS.iconst X180.here hx rfl (hb hby at_272) k) ?_
    refine own_baload (j := (1 : Int32)) X180 hx hZ eq180 VE (by decide) (by decide) (v := (.int (-127 : Int32))) (hv1) (hb hby at_273) ?_
    refine own_st (fr' := (mkF m 276 #[oI p0, oI p1, oI p2, oI 5, oI z121_0, oI 255, oI 3, .val (.ref ar), oI fi, oI se, .val (.ref d), .val (.ref co), .val (.ref ec), oI 1] [(.ref ar), (.int (-127 : Int32))])) (fun t k => XS.aload X180.here hx rfl (hb hby at_274) rfl rfl k) ?_
    refine own_st (fr' := (mkF m 277 #[oI p0, oI p1, oI p2, oI 5, oI z121_0, oI 255, oI 3, .val (.ref ar), oI fi, oI se, .val (.ref d), .val (.ref co), .val (.ref ec), oI 1] [(.int 1), (.ref ar), (.int (-127 : Int32))])) (fun t k => XS.iconst X180.here hx rfl (hb hby at_276) k) ?_
    refine own_baload (j := (1 : Int32)) X180 hx hZ eq180 (((VF.keep K177 nin0).keep K178 nin0).keep K179 nin0) (by decide) (by decide) (v := (.int (-127 : Int32))) (hv1) (hb hby at_277) ?_
    refine own_st (fr' := (mkF m 281 #[oI p0, oI p1, oI p2, oI 5, oI z121_0, oI 255, oI 3, .val (.ref ar), oI fi, oI se, .val (.ref d), .val (.ref co), .val (.ref ec), oI 1] [])) (fun t k => XS.icmpNo X180.here hx rfl (hb hby at_278) rfl (own_teq (x := (-127 : Int32)) (y := (-127 : Int32)) (show (-127) = (-127) from by decide)).2 k) ?_
    refine own_st (fr' := (mkF m 283 #[oI p0, oI p1, oI p2, oI 5, oI z121_0, oI 255, oI 3, .val (.ref ar), oI fi, oI se, .val (.ref d), .val (.ref co), .val (.ref ec), oI 1] [(.ref ec)])) (fun t k => XS.aload X180.here hx rfl (hb hby at_281) rfl rfl k) ?_
    refine own_st (fr' := (mkF m 285 #[oI p0, oI p1, oI p2, oI 5, oI z121_0, oI 255, oI 3, .val (.ref ar), oI fi, oI se, .val (.ref d), .val (.ref co), .val (.ref ec), oI 1] [(.int 3), (.ref ec)])) (fun t k => XS.iload X180.here hx rfl (hb hby at_283) rfl  k) ?_
    refine own_st (fr' := (mkF m 286 #[oI p0, oI p1, oI p2, oI 5, oI z121_0, oI 255, oI 3, .val (.ref ar), oI fi, oI se, .val (.ref d), .val (.ref co), .val (.ref ec), oI 1] [(.int 1), (.int 3), (.ref ec)])) (fun t k => XS.iconst X180.here hx rfl (hb hby at_285) k) ?_
    refine own_st (fr' := (mkF m 287 #[oI p0, oI p1, oI p2, oI 5, oI z121_0, oI 255, oI 3, .val (.ref ar), oI fi, oI se, .val (.ref d), .val (.ref co), .val (.ref ec), oI 1] [(.int 2), (.ref ec)])) (fun t k => XS.isub X180.here hx rfl (hb hby at_286) rfl k) ?_
    refine own_baload (j := (2 : Int32)) X180 hx hZ eq180 VE (by decide) (by decide) (v := (.int (-1 : Int32))) (hv2) (hb hby at_287) ?_
    refine own_st (fr' := (mkF m 290 #[oI p0, oI p1, oI p2, oI 5, oI z121_0, oI 255, oI 3, .val (.ref ar), oI fi, oI se, .val (.ref d), .val (.ref co), .val (.ref ec), oI 1] [(.ref ar), (.int (-1 : Int32))])) (fun t k => XS.aload X180.here hx rfl (hb hby at_288) rfl rfl k) ?_
    refine own_st (fr' := (mkF m 292 #[oI p0, oI p1, oI p2, oI 5, oI z121_0, oI 255, oI 3, .val (.ref ar), oI fi, oI se, .val (.ref d), .val (.ref co), .val (.ref ec), oI 1] [(.int 3), (.ref ar), (.int (-1 : Int32))])) (fun t k => XS.iload X180.here hx rfl (hb hby at_290) rfl  k) ?_
    refine own_st (fr' := (mkF m 293 #[oI p0, oI p1, oI p2, oI 5, oI z121_0, oI 255, oI 3, .val (.ref ar), oI fi, oI se, .val (.ref d), .val (.ref co), .val (.ref ec), oI 1] [(.int 1), (.int 3), (.ref ar), (.int (-1 : Int32))])) (fun t k => XS.iconst X180.here hx rfl (hb hby at_292) k) ?_
    refine own_st (fr' := (mkF m 294 #[oI p0, oI p1, oI p2, oI 5, oI z121_0, oI 255, oI 3, .val (.ref ar), oI fi, oI se, .val (.ref d), .val (.ref co), .val (.ref ec), oI 1] [(.int 2), (.ref ar), (.int (-1 : Int32))])) (fun t k => XS.isub X180.here hx rfl (hb hby at_293) rfl k) ?_
    refine own_baload (j := (2 : Int32)) X180 hx hZ eq180 (((VF.keep K177 nin0).keep K178 nin0).keep K179 nin0) (by decide) (by decide) (v := (.int (-1 : Int32))) (hv2) (hb hby at_294) ?_
    refine own_st (fr' := (mkF m 298 #[oI p0, oI p1, oI p2, oI 5, oI z121_0, oI 255, oI 3, .val (.ref ar), oI fi, oI se, .val (.ref d), .val (.ref co), .val (.ref ec), oI 1] [])) (fun t k => XS.icmpNo X180.here hx rfl (hb hby at_295) rfl (own_teq (x := (-1 : Int32)) (y := (-1 : Int32)) (show (-1) = (-1) from by decide)).2 k) ?_
    refine own_st (fr' := (mkF m 299 #[oI p0, oI p1, oI p2, oI 5, oI z121_0, oI 255, oI 3, .val (.ref ar), oI fi, oI se, .val (.ref d), .val (.ref co), .val (.ref ec), oI 1] [(.int 1)])) (fun t k => XS.iconst X180.here hx rfl (hb hby at_298) k) ?_
    refine own_st (fr' := (mkF m 303 #[oI p0, oI p1, oI p2, oI 5, oI z121_0, oI 255, oI 3, .val (.ref ar), oI fi, oI se, .val (.ref d), .val (.ref co), .val (.ref ec), oI 1] [(.int 1)])) (fun t k => XS.goto X180.here hx rfl (pc0 := 299) (pc' := 303) rfl (hb hby at_299) (by decide) (by decide) k) ?_
    refine own_st (fr' := (mkF m 305 #[oI p0, oI p1, oI p2, oI 5, oI z121_0, oI 255, oI 3, .val (.ref ar), oI fi, oI se, .val (.ref d), .val (.ref co), .val (.ref ec), oI 1] [])) (fun t k => XS.istore X180.here hx rfl (hb hby at_303) rfl  (l' := #[oI p0, oI p1, oI p2, oI 5, oI z121_0, oI 255, oI 3, .val (.ref ar), oI fi, oI se, .val (.ref d), .val (.ref co), .val (.ref ec), oI 1]) rfl k) ?_
    refine own_st (fr' := (mkF m 307 #[oI p0, oI p1, oI p2, oI 5, oI z121_0, oI 255, oI 3, .val (.ref ar), oI fi, oI se, .val (.ref d), .val (.ref co), .val (.ref ec), oI 1] [(.int 1)])) (fun t k => XS.iload X180.here hx rfl (hb hby at_305) rfl  k) ?_
    refine own_st (fr' := (mkF m 310 #[oI p0, oI p1, oI p2, oI 5, oI z121_0, oI 255, oI 3, .val (.ref ar), oI fi, oI se, .val (.ref d), .val (.ref co), .val (.ref ec), oI 1] [])) (fun t k => XS.ifNo X180.here hx rfl (hb hby at_307) rfl ((if0 _ _).trans (own_feq (x := (1 : Int32)) (y := (0 : Int32)) (show ¬ 1 = 0 from by decide)).1) k) ?_
    refine own_st (fr' := (mkF m 312 #[oI p0, oI p1, oI p2, oI 5, oI z121_0, oI 255, oI 3, .val (.ref ar), oI fi, oI se, .val (.ref d), .val (.ref co), .val (.ref ec), oI 1] [(.int 255)])) (fun t k => XS.iload X180.here hx rfl (hb hby at_310) rfl  k) ?_
    refine own_st (fr' := (mkF m 313 #[oI p0, oI p1, oI p2, oI 5, oI z121_0, oI 255, oI 3, .val (.ref ar), oI fi, oI se, .val (.ref d), .val (.ref co), .val (.ref ec), oI 1] [(.int 1), (.int 255)])) (fun t k => XS.iconst X180.here hx rfl (hb hby at_312) k) ?_
    refine own_st (fr' := (mkF m 316 #[oI p0, oI p1, oI p2, oI 5, oI z121_0, oI 255, oI 3, .val (.ref ar), oI fi, oI se, .val (.ref d), .val (.ref co), .val (.ref ec), oI 1] [])) (fun t k => XS.icmpNo X180.here hx rfl (hb hby at_313) rfl (own_flt (x := (255 : Int32)) (y := (1 : Int32)) (show ¬ 255 < 1 from by decide)).1 k) ?_
    refine own_st (fr' := (mkF m 318 #[oI p0, oI p1, oI p2, oI 5, oI z121_0, oI 255, oI 3, .val (.ref ar), oI fi, oI se, .val (.ref d), .val (.ref co), .val (.ref ec), oI 1] [(.ref co)])) (fun t k => XS.aload X180.here hx rfl (hb hby at_316) rfl rfl k) ?_
    refine own_st (fr' := (mkF m 319 #[oI p0, oI p1, oI p2, oI 5, oI z121_0, oI 255, oI 3, .val (.ref ar), oI fi, oI se, .val (.ref d), .val (.ref co), .val (.ref ec), oI 1] [(.int 0), (.ref co)])) (fun t k => XS.iconst X180.here hx rfl (hb hby at_318) k) ?_
    refine own_baload (j := (0 : Int32)) X180 hx hZ eq180 (VC.keep K179 nin0) (by decide) (by decide) (v := (.int fi)) ((hgc 0 (by decide)).trans hv3) (hb hby at_319) ?_
    refine own_st (fr' := (mkF m 322 #[oI p0, oI p1, oI p2, oI 5, oI z121_0, oI 255, oI 3, .val (.ref ar), oI fi, oI se, .val (.ref d), .val (.ref co), .val (.ref ec), oI 1] [(.int fi), (.int fi)])) (fun t k => XS.iload X180.here hx rfl (hb hby at_320) rfl  k) ?_
    refine own_st (fr' := (mkF m 325 #[oI p0, oI p1, oI p2, oI 5, oI z121_0, oI 255, oI 3, .val (.ref ar), oI fi, oI se, .val (.ref d), .val (.ref co), .val (.ref ec), oI 1] [])) (fun t k => XS.icmpNo X180.here hx rfl (hb hby at_322) rfl (own_teq (x := fi) (y := fi) (show fi.toInt = fi.toInt from rfl)).2 k) ?_
    refine own_st (fr' := (mkF m 327 #[oI p0, oI p1, oI p2, oI 5, oI z121_0, oI 255, oI 3, .val (.ref ar), oI fi, oI se, .val (.ref d), .val (.ref co), .val (.ref ec), oI 1] [(.ref ec)])) (fun t k => XS.aload X180.here hx rfl (hb hby at_325) rfl rfl k) ?_
    refine own_st (fr' := (mkF m 329 #[oI p0, oI p1, oI p2, oI 5, oI z121_0, oI 255, oI 3, .val (.ref ar), oI fi, oI se, .val (.ref d), .val (.ref co), .val (.ref ec), oI 1] [(.int 3), (.ref ec)])) (fun t k => XS.iload X180.here hx rfl (hb hby at_327) rfl  k) ?_
    refine own_baload (j := (3 : Int32)) X180 hx hZ eq180 VE (by decide) (by decide) (v := (.int fi)) (hv3) (hb hby at_329) ?_
    refine own_st (fr' := (mkF m 332 #[oI p0, oI p1, oI p2, oI 5, oI z121_0, oI 255, oI 3, .val (.ref ar), oI fi, oI se, .val (.ref d), .val (.ref co), .val (.ref ec), oI 1] [(.int fi), (.int fi)])) (fun t k => XS.iload X180.here hx rfl (hb hby at_330) rfl  k) ?_
    refine own_st (fr' := (mkF m 335 #[oI p0, oI p1, oI p2, oI 5, oI z121_0, oI 255, oI 3, .val (.ref ar), oI fi, oI se, .val (.ref d), .val (.ref co), .val (.ref ec), oI 1] [])) (fun t k => XS.icmpNo X180.here hx rfl (hb hby at_332) rfl (own_teq (x := fi) (y := fi) (show fi.toInt = fi.toInt from rfl)).2 k) ?_
    refine own_st (fr' := (mkF m 336 #[oI p0, oI p1, oI p2, oI 5, oI z121_0, oI 255, oI 3, .val (.ref ar), oI fi, oI se, .val (.ref d), .val (.ref co), .val (.ref ec), oI 1] [(.int 1)])) (fun t k => XS.iconst X180.here hx rfl (hb hby at_335) k) ?_
    refine own_st (fr' := (mkF m 340 #[oI p0, oI p1, oI p2, oI 5, oI z121_0, oI 255, oI 3, .val (.ref ar), oI fi, oI se, .val (.ref d), .val (.ref co), .val (.ref ec), oI 1] [(.int 1)])) (fun t k => XS.goto X180.here hx rfl (pc0 := 336) (pc' := 340) rfl (hb hby at_336) (by decide) (by decide) k) ?_
    refine own_st (fr' := (mkF m 342 #[oI p0, oI p1, oI p2, oI 5, oI z121_0, oI 255, oI 3, .val (.ref ar), oI fi, oI se, .val (.ref d), .val (.ref co), .val (.ref ec), oI 1] [])) (fun t k => XS.istore X180.here hx rfl (hb hby at_340) rfl  (l' := #[oI p0, oI p1, oI p2, oI 5, oI z121_0, oI 255, oI 3, .val (.ref ar), oI fi, oI se, .val (.ref d), .val (.ref co), .val (.ref ec), oI 1]) rfl k) ?_
    refine own_st (fr' := (mkF m 344 #[oI p0, oI p1, oI p2, oI 5, oI z121_0, oI 255, oI 3, .val (.ref ar), oI fi, oI se, .val (.ref d), .val (.ref co), .val (.ref ec), oI 1] [(.int 1)])) (fun t k => XS.iload X180.here hx rfl (hb hby at_342) rfl  k) ?_
    refine own_st (fr' := (mkF m 347 #[oI p0, oI p1, oI p2, oI 5, oI z121_0, oI 255, oI 3, .val (.ref ar), oI fi, oI se, .val (.ref d), .val (.ref co), .val (.ref ec), oI 1] [])) (fun t k => XS.ifNo X180.here hx rfl (hb hby at_344) rfl ((if0 _ _).trans (own_feq (x := (1 : Int32)) (y := (0 : Int32)) (show ¬ 1 = 0 from by decide)).1) k) ?_
    refine own_st (fr' := (mkF m 349 #[oI p0, oI p1, oI p2, oI 5, oI z121_0, oI 255, oI 3, .val (.ref ar), oI fi, oI se, .val (.ref d), .val (.ref co), .val (.ref ec), oI 1] [(.int 255)])) (fun t k => XS.iload X180.here hx rfl (hb hby at_347) rfl  k) ?_
    refine own_st (fr' := (mkF m 350 #[oI p0, oI p1, oI p2, oI 5, oI z121_0, oI 255, oI 3, .val (.ref ar), oI fi, oI se, .val (.ref d), .val (.ref co), .val (.ref ec), oI 1] [(.int 2), (.int 255)])) (fun t k => XS.iconst X180.here hx rfl (hb hby at_349) k) ?_
    refine own_st (fr' := (mkF m 353 #[oI p0, oI p1, oI p2, oI 5, oI z121_0, oI 255, oI 3, .val (.ref ar), oI fi, oI se, .val (.ref d), .val (.ref co), .val (.ref ec), oI 1] [])) (fun t k => XS.icmpNo X180.here hx rfl (hb hby at_350) rfl (own_flt (x := (255 : Int32)) (y := (2 : Int32)) (show ¬ 255 < 2 from by decide)).1 k) ?_
    refine own_st (fr' := (mkF m 355 #[oI p0, oI p1, oI p2, oI 5, oI z121_0, oI 255, oI 3, .val (.ref ar), oI fi, oI se, .val (.ref d), .val (.ref co), .val (.ref ec), oI 1] [(.ref co)])) (fun t k => XS.aload X180.here hx rfl (hb hby at_353) rfl rfl k) ?_
    refine own_st (fr' := (mkF m 357 #[oI p0, oI p1, oI p2, oI 5, oI z121_0, oI 255, oI 3, .val (.ref ar), oI fi, oI se, .val (.ref d), .val (.ref co), .val (.ref ec), oI 1] [(.int 255), (.ref co)])) (fun t k => XS.iload X180.here hx rfl (hb hby at_355) rfl  k) ?_
    refine own_st (fr' := (mkF m 358 #[oI p0, oI p1, oI p2, oI 5, oI z121_0, oI 255, oI 3, .val (.ref ar), oI fi, oI se, .val (.ref d), .val (.ref co), .val (.ref ec), oI 1] [(.int 1), (.int 255), (.ref co)])) (fun t k => XS.iconst X180.here hx rfl (hb hby at_357) k) ?_
    refine own_st (fr' := (mkF m 359 #[oI p0, oI p1, oI p2, oI 5, oI z121_0, oI 255, oI 3, .val (.ref ar), oI fi, oI se, .val (.ref d), .val (.ref co), .val (.ref ec), oI 1] [(.int 254), (.ref co)])) (fun t k => XS.isub X180.here hx rfl (hb hby at_358) rfl k) ?_
    refine own_baload (j := (254 : Int32)) X180 hx hZ eq180 (VC.keep K179 nin0) (by decide) (by decide) (v := (.int se)) ((hgc 254 (by decide)).trans hv257) (hb hby at_359) ?_
    refine own_st (fr' := (mkF m 362 #[oI p0, oI p1, oI p2, oI 5, oI z121_0, oI 255, oI 3, .val (.ref ar), oI fi, oI se, .val (.ref d), .val (.ref co), .val (.ref ec), oI 1] [(.int se), (.int se)])) (fun t k => XS.iload X180.here hx rfl (hb hby at_360) rfl  k) ?_
    refine own_st (fr' := (mkF m 365 #[oI p0, oI p1, oI p2, oI 5, oI z121_0, oI 255, oI 3, .val (.ref ar), oI fi, oI se, .val (.ref d), .val (.ref co), .val (.ref ec), oI 1] [])) (fun t k => XS.icmpNo X180.here hx rfl (hb hby at_362) rfl (own_teq (x := se) (y := se) (show se.toInt = se.toInt from rfl)).2 k) ?_
    refine own_st (fr' := (mkF m 367 #[oI p0, oI p1, oI p2, oI 5, oI z121_0, oI 255, oI 3, .val (.ref ar), oI fi, oI se, .val (.ref d), .val (.ref co), .val (.ref ec), oI 1] [(.ref ec)])) (fun t k => XS.aload X180.here hx rfl (hb hby at_365) rfl rfl k) ?_
    refine own_st (fr' := (mkF m 369 #[oI p0, oI p1, oI p2, oI 5, oI z121_0, oI 255, oI 3, .val (.ref ar), oI fi, oI se, .val (.ref d), .val (.ref co), .val (.ref ec), oI 1] [(.ref ar), (.ref ec)])) (fun t k => XS.aload X180.here hx rfl (hb hby at_367) rfl rfl k) ?_
    refine own_alen X180 hx hZ eq180 (((VF.keep K177 nin0).keep K178 nin0).keep K179 nin0) (hb hby at_369) ?_
    refine own_st (fr' := (mkF m 371 #[oI p0, oI p1, oI p2, oI 5, oI z121_0, oI 255, oI 3, .val (.ref ar), oI fi, oI se, .val (.ref d), .val (.ref co), .val (.ref ec), oI 1] [(.int 1), (.int 258), (.ref ec)])) (fun t k => XS.iconst X180.here hx rfl (hb hby at_370) k) ?_
    refine own_st (fr' := (mkF m 372 #[oI p0, oI p1, oI p2, oI 5, oI z121_0, oI 255, oI 3, .val (.ref ar), oI fi, oI se, .val (.ref d), .val (.ref co), .val (.ref ec), oI 1] [(.int 257), (.ref ec)])) (fun t k => XS.isub X180.here hx rfl (hb hby at_371) rfl k) ?_
    refine own_baload (j := (257 : Int32)) X180 hx hZ eq180 VE (by decide) (by decide) (v := (.int se)) (hv257) (hb hby at_372) ?_
    refine own_st (fr' := (mkF m 375 #[oI p0, oI p1, oI p2, oI 5, oI z121_0, oI 255, oI 3, .val (.ref ar), oI fi, oI se, .val (.ref d), .val (.ref co), .val (.ref ec), oI 1] [(.int se), (.int se)])) (fun t k => XS.iload X180.here hx rfl (hb hby at_373) rfl  k) ?_
    refine own_st (fr' := (mkF m 378 #[oI p0, oI p1, oI p2, oI 5, oI z121_0, oI 255, oI 3, .val (.ref ar), oI fi, oI se, .val (.ref d), .val (.ref co), .val (.ref ec), oI 1] [])) (fun t k => XS.icmpNo X180.here hx rfl (hb hby at_375) rfl (own_teq (x := se) (y := se) (show se.toInt = se.toInt from rfl)).2 k) ?_
    refine own_st (fr' := (mkF m 379 #[oI p0, oI p1, oI p2, oI 5, oI z121_0, oI 255, oI 3, .val (.ref ar), oI fi, oI se, .val (.ref d), .val (.ref co), .val (.ref ec), oI 1] [(.int 1)])) (fun t k => XS.iconst X180.here hx rfl (hb hby at_378) k) ?_
    refine own_st (fr' := (mkF m 383 #[oI p0, oI p1, oI p2, oI 5, oI z121_0, oI 255, oI 3, .val (.ref ar), oI fi, oI se, .val (.ref d), .val (.ref co), .val (.ref ec), oI 1] [(.int 1)])) (fun t k => XS.goto X180.here hx rfl (pc0 := 379) (pc' := 383) rfl (hb hby at_379) (by decide) (by decide) k) ?_
    refine own_st (fr' := (mkF m 385 #[oI p0, oI p1, oI p2, oI 5, oI z121_0, oI 255, oI 3, .val (.ref ar), oI fi, oI se, .val (.ref d), .val (.ref co), .val (.ref ec), oI 1] [])) (fun t k => XS.istore X180.here hx rfl (hb hby at_383) rfl  (l' := #[oI p0, oI p1, oI p2, oI 5, oI z121_0, oI 255, oI 3, .val (.ref ar), oI fi, oI se, .val (.ref d), .val (.ref co), .val (.ref ec), oI 1]) rfl k) ?_
    refine own_st (fr' := (mkF m 387 #[oI p0, oI p1, oI p2, oI 5, oI z121_0, oI 255, oI 3, .val (.ref ar), oI fi, oI se, .val (.ref d), .val (.ref co), .val (.ref ec), oI 1] [(.int 1)])) (fun t k => XS.iload X180.here hx rfl (hb hby at_385) rfl  k) ?_
    refine own_st (fr' := (mkF m 390 #[oI p0, oI p1, oI p2, oI 5, oI z121_0, oI 255, oI 3, .val (.ref ar), oI fi, oI se, .val (.ref d), .val (.ref co), .val (.ref ec), oI 1] [])) (fun t k => XS.ifNo X180.here hx rfl (hb hby at_387) rfl ((if0 _ _).trans (own_feq (x := (1 : Int32)) (y := (0 : Int32)) (show ¬ 1 = 0 from by decide)).1) k) ?_
    refine own_st (fr' := (mkF m 392 #[oI p0, oI p1, oI p2, oI 5, oI z121_0, oI 255, oI 3, .val (.ref ar), oI fi, oI se, .val (.ref d), .val (.ref co), .val (.ref ec), oI 1] [(.int 255)])) (fun t k => XS.iload X180.here hx rfl (hb hby at_390) rfl  k) ?_
    refine own_st (fr' := (mkF m 393 #[oI p0, oI p1, oI p2, oI 5, oI z121_0, oI 255, oI 3, .val (.ref ar), oI fi, oI se, .val (.ref d), .val (.ref co), .val (.ref ec), oI 1] [(.int 3), (.int 255)])) (fun t k => XS.iconst X180.here hx rfl (hb hby at_392) k) ?_
    refine own_st (fr' := (mkF m 396 #[oI p0, oI p1, oI p2, oI 5, oI z121_0, oI 255, oI 3, .val (.ref ar), oI fi, oI se, .val (.ref d), .val (.ref co), .val (.ref ec), oI 1] [])) (fun t k => XS.icmpNo X180.here hx rfl (hb hby at_393) rfl (own_flt (x := (255 : Int32)) (y := (3 : Int32)) (show ¬ 255 < 3 from by decide)).1 k) ?_
    refine own_st (fr' := (mkF m 398 #[oI p0, oI p1, oI p2, oI 5, oI z121_0, oI 255, oI 3, .val (.ref ar), oI fi, oI se, .val (.ref d), .val (.ref co), .val (.ref ec), oI 1] [(.ref co)])) (fun t k => XS.aload X180.here hx rfl (hb hby at_396) rfl rfl k) ?_
    refine own_st (fr' := (mkF m 399 #[oI p0, oI p1, oI p2, oI 5, oI z121_0, oI 255, oI 3, .val (.ref ar), oI fi, oI se, .val (.ref d), .val (.ref co), .val (.ref ec), oI 1] [(.int 1), (.ref co)])) (fun t k => XS.iconst X180.here hx rfl (hb hby at_398) k) ?_
    refine own_baload (j := (1 : Int32)) X180 hx hZ eq180 (VC.keep K179 nin0) (by decide) (by decide) (v := (.int 0)) ((hgc 1 (by decide)).trans hvz) (hb hby at_399) ?_
    refine own_st (fr' := (mkF m 403 #[oI p0, oI p1, oI p2, oI 5, oI z121_0, oI 255, oI 3, .val (.ref ar), oI fi, oI se, .val (.ref d), .val (.ref co), .val (.ref ec), oI 1] [])) (fun t k => XS.ifNo X180.here hx rfl (hb hby at_400) rfl ((if0 _ _).trans (own_teq (x := (0 : Int32)) (y := (0 : Int32)) (show 0 = 0 from by decide)).2) k) ?_
    refine own_st (fr' := (mkF m 405 #[oI p0, oI p1, oI p2, oI 5, oI z121_0, oI 255, oI 3, .val (.ref ar), oI fi, oI se, .val (.ref d), .val (.ref co), .val (.ref ec), oI 1] [(.ref ec)])) (fun t k => XS.aload X180.here hx rfl (hb hby at_403) rfl rfl k) ?_
    refine own_st (fr' := (mkF m 407 #[oI p0, oI p1, oI p2, oI 5, oI z121_0, oI 255, oI 3, .val (.ref ar), oI fi, oI se, .val (.ref d), .val (.ref co), .val (.ref ec), oI 1] [(.int 3), (.ref ec)])) (fun t k => XS.iload X180.here hx rfl (hb hby at_405) rfl  k) ?_
    refine own_st (fr' := (mkF m 408 #[oI p0, oI p1, oI p2, oI 5, oI z121_0, oI 255, oI 3, .val (.ref ar), oI fi, oI se, .val (.ref d), .val (.ref co), .val (.ref ec), oI 1] [(.int 1), (.int 3), (.ref ec)])) (fun t k => XS.iconst X180.here hx rfl (hb hby at_407) k) ?_
    refine own_st (fr' := (mkF m 409 #[oI p0, oI p1, oI p2, oI 5, oI z121_0, oI 255, oI 3, .val (.ref ar), oI fi, oI se, .val (.ref d), .val (.ref co), .val (.ref ec), oI 1] [(.int 4), (.ref ec)])) (fun t k => XS.iadd X180.here hx rfl (hb hby at_408) rfl k) ?_
    refine own_baload (j := (4 : Int32)) X180 hx hZ eq180 VE (by decide) (by decide) (v := (.int 0)) (hvz) (hb hby at_409) ?_
    refine own_st (fr' := (mkF m 413 #[oI p0, oI p1, oI p2, oI 5, oI z121_0, oI 255, oI 3, .val (.ref ar), oI fi, oI se, .val (.ref d), .val (.ref co), .val (.ref ec), oI 1] [])) (fun t k => XS.ifNo X180.here hx rfl (hb hby at_410) rfl ((if0 _ _).trans (own_teq (x := (0 : Int32)) (y := (0 : Int32)) (show 0 = 0 from by decide)).2) k) ?_
    refine own_st (fr' := (mkF m 414 #[oI p0, oI p1, oI p2, oI 5, oI z121_0, oI 255, oI 3, .val (.ref ar), oI fi, oI se, .val (.ref d), .val (.ref co), .val (.ref ec), oI 1] [(.int 1)])) (fun t k => XS.iconst X180.here hx rfl (hb hby at_413) k) ?_
    refine own_st (fr' := (mkF m 418 #[oI p0, oI p1, oI p2, oI 5, oI z121_0, oI 255, oI 3, .val (.ref ar), oI fi, oI se, .val (.ref d), .val (.ref co), .val (.ref ec), oI 1] [(.int 1)])) (fun t k => XS.goto X180.here hx rfl (pc0 := 414) (pc' := 418) rfl (hb hby at_414) (by decide) (by decide) k) ?_
    refine own_st (fr' := (mkF m 420 #[oI p0, oI p1, oI p2, oI 5, oI z121_0, oI 255, oI 3, .val (.ref ar), oI fi, oI se, .val (.ref d), .val (.ref co), .val (.ref ec), oI 1] [])) (fun t k => XS.istore X180.here hx rfl (hb hby at_418) rfl  (l' := #[oI p0, oI p1, oI p2, oI 5, oI z121_0, oI 255, oI 3, .val (.ref ar), oI fi, oI se, .val (.ref d), .val (.ref co), .val (.ref ec), oI 1]) rfl k) ?_
    refine own_st (fr' := (mkF m 422 #[oI p0, oI p1, oI p2, oI 5, oI z121_0, oI 255, oI 3, .val (.ref ar), oI fi, oI se, .val (.ref d), .val (.ref co), .val (.ref ec), oI 1] [(.int 1)])) (fun t k => XS.iload X180.here hx rfl (hb hby at_420) rfl  k) ?_
    exact own_retZ X180 hx hlk hret (Or.inr rfl) (hb hby at_422) (by decide) (by decide) (⟨rfl, N180⟩)
  · obtain rfl : fo = (6 : Int32) := Int32.toInt_inj.mp hfo
    refine own_st (fr' := (mkF m 29 #[oI p0, oI p1, oI p2, oI 6, oI z121_0, .unset, .unset, .unset, .unset, .unset, .unset, .unset, .unset, .unset] [(.int 6)])) (fun t k => XS.iloadN X0.here hx rfl (hb hby at_28) rfl  k) ?_
    refine own_callS X0 hx hZ (y := (⟨"com/example/linkvouch/linkvouch/apk/DerParsePinLaw", "lengthOf", "(I)I"⟩ : MethodName)) hown (hw _ (List.mem_of_getElem? (i := 0) rfl)) (hw _ (List.mem_of_getElem? (i := 1) rfl)) (hw _ (List.mem_of_getElem? (i := 2) rfl)) (hw _ (List.mem_of_getElem? (i := 3) rfl)) (by decide) (argsL := [(.int 6)]) (rest := []) (W := 0) (rm_len6 l Z a0 hw []  h0 n0 Z0 ) e0 (by rw [hml]; rfl) (lenOf pd_5 rfl) rfl (Nat.le_of_eq rfl) (hb hby at_29) (by decide) (by decide) (by decide) (by decide) ?_
    intro v181 T181 L181 X181 hQ181
    obtain ⟨rfl, Nq181, eq181⟩ := hQ181
    have N181 := Fr.app N0 Nq181
    refine own_st (fr' := (mkF m 34 #[oI p0, oI p1, oI p2, oI 6, oI z121_0, oI 256, .unset, .unset, .unset, .unset, .unset, .unset, .unset, .unset] [])) (fun t k => XS.istore X181.here hx rfl (hb hby at_32) rfl  (l' := #[oI p0, oI p1, oI p2, oI 6, oI z121_0, oI 256, .unset, .unset, .unset, .unset, .unset, .unset, .unset, .unset]) rfl k) ?_
    refine own_st (fr' := (mkF m 35 #[oI p0, oI p1, oI p2, oI 6, oI z121_0, oI 256, .unset, .unset, .unset, .unset, .unset, .unset, .unset, .unset] [(.int 6)])) (fun t k => XS.iloadN X181.here hx rfl (hb hby at_34) rfl  k) ?_
    refine own_st (fr' := (mkF m 36 #[oI p0, oI p1, oI p2, oI 6, oI z121_0, oI 256, .unset, .unset, .unset, .unset, .unset, .unset, .unset, .unset] [(.int 4), (.int 6)])) (fun t k => XS.iconst X181.here hx rfl (hb hby at_35) k) ?_
    refine own_st (fr' := (mkF m 45 #[oI p0, oI p1, oI p2, oI 6, oI z121_0, oI 256, .unset, .unset, .unset, .unset, .unset, .unset, .unset, .unset] [])) (fun t k => XS.icmpYes X181.here hx rfl (pc0 := 36) (pc' := 45) rfl (hb hby at_36) rfl (own_flt (x := (6 : Int32)) (y := (4 : Int32)) (show ¬ 6 < 4 from by decide)).2.1 (by decide) (by decide) k) ?_
    refine own_st (fr' := (mkF m 46 #[oI p0, oI p1, oI p2, oI 6, oI z121_0, oI 256, .unset, .unset, .unset, .unset, .unset, .unset, .unset, .unset] [(.int 6)])) (fun t k => XS.iloadN X181.here hx rfl (hb hby at_45) rfl  k) ?_
    refine own_st (fr' := (mkF m 48 #[oI p0, oI p1, oI p2, oI 6, oI z121_0, oI 256, .unset, .unset, .unset, .unset, .unset, .unset, .unset, .unset] [(.int 6), (.int 6)])) (fun t k => XS.bipush X181.here hx rfl (hb hby at_46) k) ?_
    refine own_st (fr' := (mkF m 57 #[oI p0, oI p1, oI p2, oI 6, oI z121_0, oI 256, .unset, .unset, .unset, .unset, .unset, .unset, .unset, .unset] [])) (fun t k => XS.icmpYes X181.here hx rfl (pc0 := 48) (pc' := 57) rfl (hb hby at_48) rfl (own_flt (x := (6 : Int32)) (y := (6 : Int32)) (show ¬ 6 < 6 from by decide)).2.1 (by decide) (by decide) k) ?_
    refine own_st (fr' := (mkF m 58 #[oI p0, oI p1, oI p2, oI 6, oI z121_0, oI 256, .unset, .unset, .unset, .unset, .unset, .unset, .unset, .unset] [(.int 4)])) (fun t k => XS.iconst X181.here hx rfl (hb hby at_57) k) ?_
    refine own_st (fr' := (mkF m 60 #[oI p0, oI p1, oI p2, oI 6, oI z121_0, oI 256, oI 4, .unset, .unset, .unset, .unset, .unset, .unset, .unset] [])) (fun t k => XS.istore X181.here hx rfl (hb hby at_58) rfl  (l' := #[oI p0, oI p1, oI p2, oI 6, oI z121_0, oI 256, oI 4, .unset, .unset, .unset, .unset, .unset, .unset, .unset]) rfl k) ?_
    refine own_st (fr' := (mkF m 61 #[oI p0, oI p1, oI p2, oI 6, oI z121_0, oI 256, oI 4, .unset, .unset, .unset, .unset, .unset, .unset, .unset] [(.int 6)])) (fun t k => XS.iloadN X181.here hx rfl (hb hby at_60) rfl  k) ?_
    refine own_callS X181 hx hZ (y := (⟨"com/example/linkvouch/linkvouch/apk/DerParsePinLaw", "alloc", "(I)[B"⟩ : MethodName)) hown (hw _ (List.mem_of_getElem? (i := 4) rfl)) (hw _ (List.mem_of_getElem? (i := 5) rfl)) (hw _ (List.mem_of_getElem? (i := 2) rfl)) (hw _ (List.mem_of_getElem? (i := 6) rfl)) (by decide) (argsL := [(.int 6)]) (rest := []) (W := 0) (rm_alloc6 l Z a0 hw []  h0 n0 Z0 ) eq181 (by rw [hml]; rfl) (lenOf pd_6 rfl) rfl (Nat.le_of_eq rfl) (hb hby at_61) (by decide) (by decide) (by decide) (by decide) ?_
    intro v182 T182 L182 X182 hQ182
    obtain ⟨⟨ar, rfl, har, ge_ar, VA, EA⟩, Nq182, K182⟩ := hQ182
    have N182 := Fr.app N181 Nq182
    refine own_st (fr' := (mkF m 66 #[oI p0, oI p1, oI p2, oI 6, oI z121_0, oI 256, oI 4, .val (.ref ar), .unset, .unset, .unset, .unset, .unset, .unset] [])) (fun t k => XS.astore X182.here hx rfl (hb hby at_64) rfl rfl (l' := #[oI p0, oI p1, oI p2, oI 6, oI z121_0, oI 256, oI 4, .val (.ref ar), .unset, .unset, .unset, .unset, .unset, .unset]) rfl k) ?_
    refine own_st (fr' := (mkF m 68 #[oI p0, oI p1, oI p2, oI 6, oI z121_0, oI 256, oI 4, .val (.ref ar), .unset, .unset, .unset, .unset, .unset, .unset] [(.ref ar)])) (fun t k => XS.aload X182.here hx rfl (hb hby at_66) rfl rfl k) ?_
    refine own_st (fr' := (mkF m 69 #[oI p0, oI p1, oI p2, oI 6, oI z121_0, oI 256, oI 4, .val (.ref ar), .unset, .unset, .unset, .unset, .unset, .unset] [(.int 0), (.ref ar)])) (fun t k => XS.iconst X182.here hx rfl (hb hby at_68) k) ?_
    refine own_st (fr' := (mkF m 71 #[oI p0, oI p1, oI p2, oI 6, oI z121_0, oI 256, oI 4, .val (.ref ar), .unset, .unset, .unset, .unset, .unset, .unset] [(.int z121_0), (.int 0), (.ref ar)])) (fun t k => XS.iload X182.here hx rfl (hb hby at_69) rfl  k) ?_
    refine own_st (fr' := (mkF m 72 #[oI p0, oI p1, oI p2, oI 6, oI z121_0, oI 256, oI 4, .val (.ref ar), .unset, .unset, .unset, .unset, .unset, .unset] [(.int (z121_0.toInt8.toInt32)), (.int 0), (.ref ar)])) (fun t k => XS.i2b X182.here hx rfl (hb hby at_71) rfl k) ?_
    have qb := c_i2b z121_0
    generalize hTB : (z121_0.toInt8.toInt32) = tb at qb ⊢
    have hnb : nar .byte tb = tb := own_narb qb.2.1 (by omega)
    refine own_bastore X182 hx hZ rfl VA (by decide) (by decide) (hb hby at_72) ?_
    intro T183 h183 X183 e183 W183 V183
    have N183 := Fr.snoc X183 N182 ge_ar
    refine own_st (fr' := (mkF m 74 #[oI p0, oI p1, oI p2, oI 6, oI z121_0, oI 256, oI 4, .val (.ref ar), .unset, .unset, .unset, .unset, .unset, .unset] [(.int 6)])) (fun t k => XS.iloadN X183.here hx rfl (hb hby at_73) rfl  k) ?_
    refine own_st (fr' := (mkF m 75 #[oI p0, oI p1, oI p2, oI 6, oI z121_0, oI 256, oI 4, .val (.ref ar), .unset, .unset, .unset, .unset, .unset, .unset] [(.int 4), (.int 6)])) (fun t k => XS.iconst X183.here hx rfl (hb hby at_74) k) ?_
    refine own_st (fr' := (mkF m 88 #[oI p0, oI p1, oI p2, oI 6, oI z121_0, oI 256, oI 4, .val (.ref ar), .unset, .unset, .unset, .unset, .unset, .unset] [])) (fun t k => XS.icmpYes X183.here hx rfl (pc0 := 75) (pc' := 88) rfl (hb hby at_75) rfl (own_flt (x := (6 : Int32)) (y := (4 : Int32)) (show ¬ 6 < 4 from by decide)).2.1 (by decide) (by decide) k) ?_
    refine own_st (fr' := (mkF m 89 #[oI p0, oI p1, oI p2, oI 6, oI z121_0, oI 256, oI 4, .val (.ref ar), .unset, .unset, .unset, .unset, .unset, .unset] [(.int 6)])) (fun t k => XS.iloadN X183.here hx rfl (hb hby at_88) rfl  k) ?_
    refine own_st (fr' := (mkF m 91 #[oI p0, oI p1, oI p2, oI 6, oI z121_0, oI 256, oI 4, .val (.ref ar), .unset, .unset, .unset, .unset, .unset, .unset] [(.int 6), (.int 6)])) (fun t k => XS.bipush X183.here hx rfl (hb hby at_89) k) ?_
    refine own_st (fr' := (mkF m 110 #[oI p0, oI p1, oI p2, oI 6, oI z121_0, oI 256, oI 4, .val (.ref ar), .unset, .unset, .unset, .unset, .unset, .unset] [])) (fun t k => XS.icmpYes X183.here hx rfl (pc0 := 91) (pc' := 110) rfl (hb hby at_91) rfl (own_flt (x := (6 : Int32)) (y := (6 : Int32)) (show ¬ 6 < 6 from by decide)).2.1 (by decide) (by decide) k) ?_
    refine own_st (fr' := (mkF m 112 #[oI p0, oI p1, oI p2, oI 6, oI z121_0, oI 256, oI 4, .val (.ref ar), .unset, .unset, .unset, .unset, .unset, .unset] [(.ref ar)])) (fun t k => XS.aload X183.here hx rfl (hb hby at_110) rfl rfl k) ?_
    refine own_st (fr' := (mkF m 113 #[oI p0, oI p1, oI p2, oI 6, oI z121_0, oI 256, oI 4, .val (.ref ar), .unset, .unset, .unset, .unset, .unset, .unset] [(.int 1), (.ref ar)])) (fun t k => XS.iconst X183.here hx rfl (hb hby at_112) k) ?_
    refine own_st (fr' := (mkF m 115 #[oI p0, oI p1, oI p2, oI 6, oI z121_0, oI 256, oI 4, .val (.ref ar), .unset, .unset, .unset, .unset, .unset, .unset] [(.int (-126 : Int32)), (.int 1), (.ref ar)])) (fun t k => XS.bipush X183.here hx rfl (hb hby at_113) k) ?_
    refine own_bastore X183 hx hZ e183 V183 (by decide) (by decide) (hb hby at_115) ?_
    intro T184 h184 X184 e184 W184 V184
    have N184 := Fr.snoc X184 N183 ge_ar
    refine own_st (fr' := (mkF m 118 #[oI p0, oI p1, oI p2, oI 6, oI z121_0, oI 256, oI 4, .val (.ref ar), .unset, .unset, .unset, .unset, .unset, .unset] [(.ref ar)])) (fun t k => XS.aload X184.here hx rfl (hb hby at_116) rfl rfl k) ?_
    refine own_st (fr' := (mkF m 119 #[oI p0, oI p1, oI p2, oI 6, oI z121_0, oI 256, oI 4, .val (.ref ar), .unset, .unset, .unset, .unset, .unset, .unset] [(.int 2), (.ref ar)])) (fun t k => XS.iconst X184.here hx rfl (hb hby at_118) k) ?_
    refine own_st (fr' := (mkF m 121 #[oI p0, oI p1, oI p2, oI 6, oI z121_0, oI 256, oI 4, .val (.ref ar), .unset, .unset, .unset, .unset, .unset, .unset] [(.int 256), (.int 2), (.ref ar)])) (fun t k => XS.iload X184.here hx rfl (hb hby at_119) rfl  k) ?_
    refine own_st (fr' := (mkF m 123 #[oI p0, oI p1, oI p2, oI 6, oI z121_0, oI 256, oI 4, .val (.ref ar), .unset, .unset, .unset, .unset, .unset, .unset] [(.int 8), (.int 256), (.int 2), (.ref ar)])) (fun t k => XS.bipush X184.here hx rfl (hb hby at_121) k) ?_
    refine own_st (fr' := (mkF m 124 #[oI p0, oI p1, oI p2, oI 6, oI z121_0, oI 256, oI 4, .val (.ref ar), .unset, .unset, .unset, .unset, .unset, .unset] [(.int 1), (.int 2), (.ref ar)])) (fun t k => XS.ishr X184.here hx rfl (hb hby at_123) rfl k) ?_
    refine own_st (fr' := (mkF m 125 #[oI p0, oI p1, oI p2, oI 6, oI z121_0, oI 256, oI 4, .val (.ref ar), .unset, .unset, .unset, .unset, .unset, .unset] [(.int 1), (.int 2), (.ref ar)])) (fun t k => XS.i2b X184.here hx rfl (hb hby at_124) rfl k) ?_
    refine own_bastore X184 hx hZ e184 V184 (by decide) (by decide) (hb hby at_125) ?_
    intro T185 h185 X185 e185 W185 V185
    have N185 := Fr.snoc X185 N184 ge_ar
    refine own_st (fr' := (mkF m 128 #[oI p0, oI p1, oI p2, oI 6, oI z121_0, oI 256, oI 4, .val (.ref ar), .unset, .unset, .unset, .unset, .unset, .unset] [(.ref ar)])) (fun t k => XS.aload X185.here hx rfl (hb hby at_126) rfl rfl k) ?_
    refine own_st (fr' := (mkF m 129 #[oI p0, oI p1, oI p2, oI 6, oI z121_0, oI 256, oI 4, .val (.ref ar), .unset, .unset, .unset, .unset, .unset, .unset] [(.int 3), (.ref ar)])) (fun t k => XS.iconst X185.here hx rfl (hb hby at_128) k) ?_
    refine own_st (fr' := (mkF m 131 #[oI p0, oI p1, oI p2, oI 6, oI z121_0, oI 256, oI 4, .val (.ref ar), .unset, .unset, .unset, .unset, .unset, .unset] [(.int 256), (.int 3), (.ref ar)])) (fun t k => XS.iload X185.here hx rfl (hb hby at_129) rfl  k) ?_
    refine own_st (fr' := (mkF m 132 #[oI p0, oI p1, oI p2, oI 6, oI z121_0, oI 256, oI 4, .val (.ref ar), .unset, .unset, .unset, .unset, .unset, .unset] [(.int 0), (.int 3), (.ref ar)])) (fun t k => XS.i2b X185.here hx rfl (hb hby at_131) rfl k) ?_
    refine own_bastore X185 hx hZ e185 V185 (by decide) (by decide) (hb hby at_132) ?_
    intro T186 h186 X186 e186 W186 V186
    have N186 := Fr.snoc X186 N185 ge_ar
    refine own_st (fr' := (mkF m 134 #[oI p0, oI p1, oI p2, oI 6, oI z121_0, oI 256, oI 4, .val (.ref ar), .unset, .unset, .unset, .unset, .unset, .unset] [(.int p2)])) (fun t k => XS.iloadN X186.here hx rfl (hb hby at_133) rfl  k) ?_
    refine own_st (fr' := (mkF m 135 #[oI p0, oI p1, oI p2, oI 6, oI z121_0, oI 256, oI 4, .val (.ref ar), .unset, .unset, .unset, .unset, .unset, .unset] [(.int (p2.toInt8.toInt32))])) (fun t k => XS.i2b X186.here hx rfl (hb hby at_134) rfl k) ?_
    refine own_st (fr' := (mkF m 137 #[oI p0, oI p1, oI p2, oI 6, oI z121_0, oI 256, oI 4, .val (.ref ar), .val (.int (p2.toInt8.toInt32)), .unset, .unset, .unset, .unset, .unset] [])) (fun t k => XS.istore X186.here hx rfl (hb hby at_135) rfl  (l' := #[oI p0, oI p1, oI p2, oI 6, oI z121_0, oI 256, oI 4, .val (.ref ar), .val (.int (p2.toInt8.toInt32)), .unset, .unset, .unset, .unset, .unset]) rfl k) ?_
    have q1 := c_i2b p2
    generalize hFI : p2.toInt8.toInt32 = fi at q1 ⊢
    have hnf : nar .byte fi = fi := own_narb q1.2.1 (by omega)
    refine own_st (fr' := (mkF m 138 #[oI p0, oI p1, oI p2, oI 6, oI z121_0, oI 256, oI 4, .val (.ref ar), oI fi, .unset, .unset, .unset, .unset, .unset] [(.int p2)])) (fun t k => XS.iloadN X186.here hx rfl (hb hby at_137) rfl  k) ?_
    refine own_st (fr' := (mkF m 140 #[oI p0, oI p1, oI p2, oI 6, oI z121_0, oI 256, oI 4, .val (.ref ar), oI fi, .unset, .unset, .unset, .unset, .unset] [(.int 8), (.int p2)])) (fun t k => XS.bipush X186.here hx rfl (hb hby at_138) k) ?_
    refine own_st (fr' := (mkF m 141 #[oI p0, oI p1, oI p2, oI 6, oI z121_0, oI 256, oI 4, .val (.ref ar), oI fi, .unset, .unset, .unset, .unset, .unset] [(.int (p2 >>> ((8 : Int32) &&& 31)))])) (fun t k => XS.ishr X186.here hx rfl (hb hby at_140) rfl k) ?_
    refine own_st (fr' := (mkF m 142 #[oI p0, oI p1, oI p2, oI 6, oI z121_0, oI 256, oI 4, .val (.ref ar), oI fi, .unset, .unset, .unset, .unset, .unset] [(.int ((p2 >>> ((8 : Int32) &&& 31)).toInt8.toInt32))])) (fun t k => XS.i2b X186.here hx rfl (hb hby at_141) rfl k) ?_
    refine own_st (fr' := (mkF m 144 #[oI p0, oI p1, oI p2, oI 6, oI z121_0, oI 256, oI 4, .val (.ref ar), oI fi, .val (.int ((p2 >>> ((8 : Int32) &&& 31)).toInt8.toInt32)), .unset, .unset, .unset, .unset] [])) (fun t k => XS.istore X186.here hx rfl (hb hby at_142) rfl  (l' := #[oI p0, oI p1, oI p2, oI 6, oI z121_0, oI 256, oI 4, .val (.ref ar), oI fi, .val (.int ((p2 >>> ((8 : Int32) &&& 31)).toInt8.toInt32)), .unset, .unset, .unset, .unset]) rfl k) ?_
    have q2 := c_i2b (p2 >>> ((8 : Int32) &&& 31))
    generalize hSE : (p2 >>> ((8 : Int32) &&& 31)).toInt8.toInt32 = se at q2 ⊢
    have hns : nar .byte se = se := own_narb q2.2.1 (by omega)
    refine own_st (fr' := (mkF m 146 #[oI p0, oI p1, oI p2, oI 6, oI z121_0, oI 256, oI 4, .val (.ref ar), oI fi, oI se, .unset, .unset, .unset, .unset] [(.int 256)])) (fun t k => XS.iload X186.here hx rfl (hb hby at_144) rfl  k) ?_
    refine own_st (fr' := (mkF m 147 #[oI p0, oI p1, oI p2, oI 6, oI z121_0, oI 256, oI 4, .val (.ref ar), oI fi, oI se, .unset, .unset, .unset, .unset] [(.int 1), (.int 256)])) (fun t k => XS.iconst X186.here hx rfl (hb hby at_146) k) ?_
    refine own_st (fr' := (mkF m 150 #[oI p0, oI p1, oI p2, oI 6, oI z121_0, oI 256, oI 4, .val (.ref ar), oI fi, oI se, .unset, .unset, .unset, .unset] [])) (fun t k => XS.icmpNo X186.here hx rfl (hb hby at_147) rfl (own_flt (x := (256 : Int32)) (y := (1 : Int32)) (show ¬ 256 < 1 from by decide)).1 k) ?_
    refine own_st (fr' := (mkF m 152 #[oI p0, oI p1, oI p2, oI 6, oI z121_0, oI 256, oI 4, .val (.ref ar), oI fi, oI se, .unset, .unset, .unset, .unset] [(.ref ar)])) (fun t k => XS.aload X186.here hx rfl (hb hby at_150) rfl rfl k) ?_
    refine own_st (fr' := (mkF m 154 #[oI p0, oI p1, oI p2, oI 6, oI z121_0, oI 256, oI 4, .val (.ref ar), oI fi, oI se, .unset, .unset, .unset, .unset] [(.int 4), (.ref ar)])) (fun t k => XS.iload X186.here hx rfl (hb hby at_152) rfl  k) ?_
    refine own_st (fr' := (mkF m 156 #[oI p0, oI p1, oI p2, oI 6, oI z121_0, oI 256, oI 4, .val (.ref ar), oI fi, oI se, .unset, .unset, .unset, .unset] [(.int fi), (.int 4), (.ref ar)])) (fun t k => XS.iload X186.here hx rfl (hb hby at_154) rfl  k) ?_
    refine own_bastore X186 hx hZ e186 V186 (by decide) (by decide) (hb hby at_156) ?_
    intro T187 h187 X187 e187 W187 V187
    have N187 := Fr.snoc X187 N186 ge_ar
    refine own_st (fr' := (mkF m 159 #[oI p0, oI p1, oI p2, oI 6, oI z121_0, oI 256, oI 4, .val (.ref ar), oI fi, oI se, .unset, .unset, .unset, .unset] [(.int 256)])) (fun t k => XS.iload X187.here hx rfl (hb hby at_157) rfl  k) ?_
    refine own_st (fr' := (mkF m 160 #[oI p0, oI p1, oI p2, oI 6, oI z121_0, oI 256, oI 4, .val (.ref ar), oI fi, oI se, .unset, .unset, .unset, .unset] [(.int 2), (.int 256)])) (fun t k => XS.iconst X187.here hx rfl (hb hby at_159) k) ?_
    refine own_st (fr' := (mkF m 163 #[oI p0, oI p1, oI p2, oI 6, oI z121_0, oI 256, oI 4, .val (.ref ar), oI fi, oI se, .unset, .unset, .unset, .unset] [])) (fun t k => XS.icmpNo X187.here hx rfl (hb hby at_160) rfl (own_flt (x := (256 : Int32)) (y := (2 : Int32)) (show ¬ 256 < 2 from by decide)).1 k) ?_
    refine own_st (fr' := (mkF m 165 #[oI p0, oI p1, oI p2, oI 6, oI z121_0, oI 256, oI 4, .val (.ref ar), oI fi, oI se, .unset, .unset, .unset, .unset] [(.ref ar)])) (fun t k => XS.aload X187.here hx rfl (hb hby at_163) rfl rfl k) ?_
    refine own_st (fr' := (mkF m 167 #[oI p0, oI p1, oI p2, oI 6, oI z121_0, oI 256, oI 4, .val (.ref ar), oI fi, oI se, .unset, .unset, .unset, .unset] [(.int 4), (.ref ar)])) (fun t k => XS.iload X187.here hx rfl (hb hby at_165) rfl  k) ?_
    refine own_st (fr' := (mkF m 169 #[oI p0, oI p1, oI p2, oI 6, oI z121_0, oI 256, oI 4, .val (.ref ar), oI fi, oI se, .unset, .unset, .unset, .unset] [(.int 256), (.int 4), (.ref ar)])) (fun t k => XS.iload X187.here hx rfl (hb hby at_167) rfl  k) ?_
    refine own_st (fr' := (mkF m 170 #[oI p0, oI p1, oI p2, oI 6, oI z121_0, oI 256, oI 4, .val (.ref ar), oI fi, oI se, .unset, .unset, .unset, .unset] [(.int 260), (.ref ar)])) (fun t k => XS.iadd X187.here hx rfl (hb hby at_169) rfl k) ?_
    refine own_st (fr' := (mkF m 171 #[oI p0, oI p1, oI p2, oI 6, oI z121_0, oI 256, oI 4, .val (.ref ar), oI fi, oI se, .unset, .unset, .unset, .unset] [(.int 1), (.int 260), (.ref ar)])) (fun t k => XS.iconst X187.here hx rfl (hb hby at_170) k) ?_
    refine own_st (fr' := (mkF m 172 #[oI p0, oI p1, oI p2, oI 6, oI z121_0, oI 256, oI 4, .val (.ref ar), oI fi, oI se, .unset, .unset, .unset, .unset] [(.int 259), (.ref ar)])) (fun t k => XS.isub X187.here hx rfl (hb hby at_171) rfl k) ?_
    refine own_st (fr' := (mkF m 174 #[oI p0, oI p1, oI p2, oI 6, oI z121_0, oI 256, oI 4, .val (.ref ar), oI fi, oI se, .unset, .unset, .unset, .unset] [(.int se), (.int 259), (.ref ar)])) (fun t k => XS.iload X187.here hx rfl (hb hby at_172) rfl  k) ?_
    refine own_bastore X187 hx hZ e187 V187 (by decide) (by decide) (hb hby at_174) ?_
    intro T188 h188 X188 e188 W188 V188
    have N188 := Fr.snoc X188 N187 ge_ar
    obtain ⟨ff, VF, hv⟩ : ∃ ff : Nat → Value, own_A Z h188 ar .byte 260 ff ∧ (ff 0 = .int tb ∧ ff 1 = .int (-126 : Int32) ∧ ff 2 = .int (1 : Int32) ∧ ff 3 = .int (0 : Int32) ∧ ff 4 = .int fi ∧ ff 259 = .int se ∧ ff 5 = .int 0) := ⟨_, V188, by show Value.int (nar .byte tb) = _; rw [hnb], rfl, rfl, rfl, by show Value.int (nar .byte fi) = _; rw [hnf], by show Value.int (nar .byte se) = _; rw [hns], rfl⟩
    obtain ⟨hv0, hv1, hv2, hv3, hv4, hv259, hvz⟩ := hv
    have hbk : tb &&& 255 = z121_0 := own_back z121_0 tb hz121.1 hz121.2.1 (by omega)
    refine own_st (fr' := (mkF m 177 #[oI p0, oI p1, oI p2, oI 6, oI z121_0, oI 256, oI 4, .val (.ref ar), oI fi, oI se, .unset, .unset, .unset, .unset] [(.ref ar)])) (fun t k => XS.aload X188.here hx rfl (hb hby at_175) rfl rfl k) ?_
    refine own_callS X188 hx hZ (y := (⟨"com/example/linkvouch/linkvouch/apk/Der", "parse", "([B)Lcom/example/linkvouch/linkvouch/apk/Der;"⟩ : MethodName)) hown (hw _ (List.mem_of_getElem? (i := 8) rfl)) (hw _ (List.mem_of_getElem? (i := 9) rfl)) (hw _ (List.mem_of_getElem? (i := 10) rfl)) (hw _ (List.mem_of_getElem? (i := 11) rfl)) (by decide) (argsL := [(.ref ar)]) (rest := []) (W := 0) (rm_parse6 l Z a0 hw [] ar tb ff h188 n0 (Nat.le_trans (Nat.le_trans (Nat.le_trans (Nat.le_trans (Nat.le_trans (Nat.le_trans (Nat.le_trans Z0 K182.1) (Nat.le_of_eq (Wr.size W183).symm)) (Nat.le_of_eq (Wr.size W184).symm)) (Nat.le_of_eq (Wr.size W185).symm)) (Nat.le_of_eq (Wr.size W186).symm)) (Nat.le_of_eq (Wr.size W187).symm)) (Nat.le_of_eq (Wr.size W188).symm)) VF hv0 hv1 hv2 hv3 (by rw [hbk]; exact hz121.2.2)) e188 (by rw [hml]; rfl) (lenOf pd_7 rfl) rfl (Nat.le_of_eq rfl) (hb hby at_177) (by decide) (by decide) (by decide) (by decide) ?_
    intro v189 T189 L189 X189 hQ189
    obtain ⟨⟨d, rfl, hd0, Ed, Fd0, Fd1, Fd2, Fd3, Fd4⟩, Nq189, K189⟩ := hQ189
    rw [hbk] at Fd1
    have N189 := Fr.app N188 Nq189
    refine own_st (fr' := (mkF m 182 #[oI p0, oI p1, oI p2, oI 6, oI z121_0, oI 256, oI 4, .val (.ref ar), oI fi, oI se, .val (.ref d), .unset, .unset, .unset] [])) (fun t k => XS.astore X189.here hx rfl (hb hby at_180) rfl rfl (l' := #[oI p0, oI p1, oI p2, oI 6, oI z121_0, oI 256, oI 4, .val (.ref ar), oI fi, oI se, .val (.ref d), .unset, .unset, .unset]) rfl k) ?_
    refine own_st (fr' := (mkF m 184 #[oI p0, oI p1, oI p2, oI 6, oI z121_0, oI 256, oI 4, .val (.ref ar), oI fi, oI se, .val (.ref d), .unset, .unset, .unset] [(.ref d)])) (fun t k => XS.aload X189.here hx rfl (hb hby at_182) rfl rfl k) ?_
    refine own_callV X189 hx hZ (y := (⟨"com/example/linkvouch/linkvouch/apk/Der", "content", "()[B"⟩ : MethodName)) (z := (⟨"com/example/linkvouch/linkvouch/apk/Der", "content", "()[B"⟩ : MethodName)) hown (hw _ (List.mem_of_getElem? (i := 33) rfl)) (hw _ (List.mem_of_getElem? (i := 34) rfl)) (notFace_of_selects (args := #[]) (mvT hZ (hw _ (List.mem_of_getElem? (i := 36) rfl)))) (hw _ (List.mem_of_getElem? (i := 36) rfl)) (hw _ (List.mem_of_getElem? (i := 35) rfl)) (hw _ (List.mem_of_getElem? (i := 10) rfl)) (hw _ (List.mem_of_getElem? (i := 37) rfl)) (by decide) (a := d) (argsL := []) (rest := []) (W := 0) (rm_cont6 l Z a0 hw [] d ar ff T189.heap n0 (Nat.le_trans (Nat.le_trans (Nat.le_trans (Nat.le_trans (Nat.le_trans (Nat.le_trans (Nat.le_trans (Nat.le_trans Z0 K182.1) (Nat.le_of_eq (Wr.size W183).symm)) (Nat.le_of_eq (Wr.size W184).symm)) (Nat.le_of_eq (Wr.size W185).symm)) (Nat.le_of_eq (Wr.size W186).symm)) (Nat.le_of_eq (Wr.size W187).symm)) (Nat.le_of_eq (Wr.size W188).symm)) K189.1) Fd0 (VF.keep K189 nin0) ((Exa.wr W188 (Exa.wr W187 (Exa.wr W186 (Exa.wr W185 (Exa.wr W184 (Exa.wr W183 EA)))))).keep K189) Fd4 Fd3) rfl Ed (by rw [hml]; rfl) (lenOf pd_8 rfl) rfl (Nat.le_of_eq rfl) (hb hby at_184) (by decide) (by decide) (by decide) (by decide) ?_
    intro v190 T190 L190 X190 hQ190
    obtain ⟨⟨co, gc, rfl, hco, VC, hgc⟩, Nq190, K190⟩ := hQ190
    have N190 := Fr.app N189 Nq190
    refine own_st (fr' := (mkF m 189 #[oI p0, oI p1, oI p2, oI 6, oI z121_0, oI 256, oI 4, .val (.ref ar), oI fi, oI se, .val (.ref d), .val (.ref co), .unset, .unset] [])) (fun t k => XS.astore X190.here hx rfl (hb hby at_187) rfl rfl (l' := #[oI p0, oI p1, oI p2, oI 6, oI z121_0, oI 256, oI 4, .val (.ref ar), oI fi, oI se, .val (.ref d), .val (.ref co), .unset, .unset]) rfl k) ?_
    refine own_st (fr' := (mkF m 191 #[oI p0, oI p1, oI p2, oI 6, oI z121_0, oI 256, oI 4, .val (.ref ar), oI fi, oI se, .val (.ref d), .val (.ref co), .unset, .unset] [(.ref d)])) (fun t k => XS.aload X190.here hx rfl (hb hby at_189) rfl rfl k) ?_
    refine own_callV X190 hx hZ (y := (⟨"com/example/linkvouch/linkvouch/apk/Der", "encoded", "()[B"⟩ : MethodName)) (z := (⟨"com/example/linkvouch/linkvouch/apk/Der", "encoded", "()[B"⟩ : MethodName)) hown (hw _ (List.mem_of_getElem? (i := 56) rfl)) (hw _ (List.mem_of_getElem? (i := 57) rfl)) (notFace_of_selects (args := #[]) (mvT hZ (hw _ (List.mem_of_getElem? (i := 59) rfl)))) (hw _ (List.mem_of_getElem? (i := 59) rfl)) (hw _ (List.mem_of_getElem? (i := 58) rfl)) (hw _ (List.mem_of_getElem? (i := 10) rfl)) (hw _ (List.mem_of_getElem? (i := 60) rfl)) (by decide) (a := d) (argsL := []) (rest := []) (W := 0) (rm_enc6 l Z a0 hw [] d ar ff T190.heap n0 (Nat.le_trans (Nat.le_trans (Nat.le_trans (Nat.le_trans (Nat.le_trans (Nat.le_trans (Nat.le_trans (Nat.le_trans (Nat.le_trans Z0 K182.1) (Nat.le_of_eq (Wr.size W183).symm)) (Nat.le_of_eq (Wr.size W184).symm)) (Nat.le_of_eq (Wr.size W185).symm)) (Nat.le_of_eq (Wr.size W186).symm)) (Nat.le_of_eq (Wr.size W187).symm)) (Nat.le_of_eq (Wr.size W188).symm)) K189.1) K190.1) (Fd0.keep K190 nin0) ((VF.keep K189 nin0).keep K190 nin0) (((Exa.wr W188 (Exa.wr W187 (Exa.wr W186 (Exa.wr W185 (Exa.wr W184 (Exa.wr W183 EA)))))).keep K189).keep K190) (Fd4.keep K190 nin0) (Fd2.keep K190 nin0)) rfl (Ed.keep K190) (by rw [hml]; rfl) (lenOf pd_8 rfl) rfl (Nat.le_of_eq rfl) (hb hby at_191) (by decide) (by decide) (by decide) (by decide) ?_
    intro v191 T191 L191 X191 hQ191
    obtain ⟨⟨ec, rfl, hec, VE⟩, Nq191, K191⟩ := hQ191
    have N191 := Fr.app N190 Nq191
    refine own_st (fr' := (mkF m 196 #[oI p0, oI p1, oI p2, oI 6, oI z121_0, oI 256, oI 4, .val (.ref ar), oI fi, oI se, .val (.ref d), .val (.ref co), .val (.ref ec), .unset] [])) (fun t k => XS.astore X191.here hx rfl (hb hby at_194) rfl rfl (l' := #[oI p0, oI p1, oI p2, oI 6, oI z121_0, oI 256, oI 4, .val (.ref ar), oI fi, oI se, .val (.ref d), .val (.ref co), .val (.ref ec), .unset]) rfl k) ?_
    refine own_st (fr' := (mkF m 198 #[oI p0, oI p1, oI p2, oI 6, oI z121_0, oI 256, oI 4, .val (.ref ar), oI fi, oI se, .val (.ref d), .val (.ref co), .val (.ref ec), .unset] [(.ref d)])) (fun t k => XS.aload X191.here hx rfl (hb hby at_196) rfl rfl k) ?_
    refine own_callV X191 hx hZ (y := (⟨"com/example/linkvouch/linkvouch/apk/Der", "tag", "()I"⟩ : MethodName)) (z := (⟨"com/example/linkvouch/linkvouch/apk/Der", "tag", "()I"⟩ : MethodName)) hown (hw _ (List.mem_of_getElem? (i := 70) rfl)) (hw _ (List.mem_of_getElem? (i := 71) rfl)) (notFace_of_selects (args := #[]) (mvT hZ (hw _ (List.mem_of_getElem? (i := 73) rfl)))) (hw _ (List.mem_of_getElem? (i := 73) rfl)) (hw _ (List.mem_of_getElem? (i := 72) rfl)) (hw _ (List.mem_of_getElem? (i := 10) rfl)) (hw _ (List.mem_of_getElem? (i := 74) rfl)) (by decide) (a := d) (argsL := []) (rest := []) (W := 0) (rm_tag l Z a0 hw [] d z121_0 T191.heap n0 (Nat.le_trans (Nat.le_trans (Nat.le_trans (Nat.le_trans (Nat.le_trans (Nat.le_trans (Nat.le_trans (Nat.le_trans (Nat.le_trans (Nat.le_trans Z0 K182.1) (Nat.le_of_eq (Wr.size W183).symm)) (Nat.le_of_eq (Wr.size W184).symm)) (Nat.le_of_eq (Wr.size W185).symm)) (Nat.le_of_eq (Wr.size W186).symm)) (Nat.le_of_eq (Wr.size W187).symm)) (Nat.le_of_eq (Wr.size W188).symm)) K189.1) K190.1) K191.1) ((Fd1.keep K190 nin0).keep K191 nin0)) rfl ((Ed.keep K190).keep K191) (by rw [hml]; rfl) (lenOf pd_9 rfl) rfl (Nat.le_of_eq rfl) (hb hby at_198) (by decide) (by decide) (by decide) (by decide) ?_
    intro v192 T192 L192 X192 hQ192
    obtain ⟨rfl, Nq192, eq192⟩ := hQ192
    have N192 := Fr.app N191 Nq192
    refine own_st (fr' := (mkF m 203 #[oI p0, oI p1, oI p2, oI 6, oI z121_0, oI 256, oI 4, .val (.ref ar), oI fi, oI se, .val (.ref d), .val (.ref co), .val (.ref ec), .unset] [(.int z121_0), (.int z121_0)])) (fun t k => XS.iload X192.here hx rfl (hb hby at_201) rfl  k) ?_
    refine own_st (fr' := (mkF m 206 #[oI p0, oI p1, oI p2, oI 6, oI z121_0, oI 256, oI 4, .val (.ref ar), oI fi, oI se, .val (.ref d), .val (.ref co), .val (.ref ec), .unset] [])) (fun t k => XS.icmpNo X192.here hx rfl (hb hby at_203) rfl (own_teq (x := z121_0) (y := z121_0) (show z121_0.toInt = z121_0.toInt from rfl)).2 k) ?_
    refine own_st (fr' := (mkF m 207 #[oI p0, oI p1, oI p2, oI 6, oI z121_0, oI 256, oI 4, .val (.ref ar), oI fi, oI se, .val (.ref d), .val (.ref co), .val (.ref ec), .unset] [(.int 1)])) (fun t k => XS.iconst X192.here hx rfl (hb hby at_206) k) ?_
    refine own_st (fr' := (mkF m 211 #[oI p0, oI p1, oI p2, oI 6, oI z121_0, oI 256, oI 4, .val (.ref ar), oI fi, oI se, .val (.ref d), .val (.ref co), .val (.ref ec), .unset] [(.int 1)])) (fun t k => XS.goto X192.here hx rfl (pc0 := 207) (pc' := 211) rfl (hb hby at_207) (by decide) (by decide) k) ?_
    refine own_st (fr' := (mkF m 213 #[oI p0, oI p1, oI p2, oI 6, oI z121_0, oI 256, oI 4, .val (.ref ar), oI fi, oI se, .val (.ref d), .val (.ref co), .val (.ref ec), oI 1] [])) (fun t k => XS.istore X192.here hx rfl (hb hby at_211) rfl  (l' := #[oI p0, oI p1, oI p2, oI 6, oI z121_0, oI 256, oI 4, .val (.ref ar), oI fi, oI se, .val (.ref d), .val (.ref co), .val (.ref ec), oI 1]) rfl k) ?_
    refine own_st (fr' := (mkF m 215 #[oI p0, oI p1, oI p2, oI 6, oI z121_0, oI 256, oI 4, .val (.ref ar), oI fi, oI se, .val (.ref d), .val (.ref co), .val (.ref ec), oI 1] [(.int 1)])) (fun t k => XS.iload X192.here hx rfl (hb hby at_213) rfl  k) ?_
    refine own_st (fr' := (mkF m 218 #[oI p0, oI p1, oI p2, oI 6, oI z121_0, oI 256, oI 4, .val (.ref ar), oI fi, oI se, .val (.ref d), .val (.ref co), .val (.ref ec), oI 1] [])) (fun t k => XS.ifNo X192.here hx rfl (hb hby at_215) rfl ((if0 _ _).trans (own_feq (x := (1 : Int32)) (y := (0 : Int32)) (show ¬ 1 = 0 from by decide)).1) k) ?_
    refine own_st (fr' := (mkF m 220 #[oI p0, oI p1, oI p2, oI 6, oI z121_0, oI 256, oI 4, .val (.ref ar), oI fi, oI se, .val (.ref d), .val (.ref co), .val (.ref ec), oI 1] [(.ref co)])) (fun t k => XS.aload X192.here hx rfl (hb hby at_218) rfl rfl k) ?_
    refine own_alen X192 hx hZ eq192 (VC.keep K191 nin0) (hb hby at_220) ?_
    refine own_st (fr' := (mkF m 223 #[oI p0, oI p1, oI p2, oI 6, oI z121_0, oI 256, oI 4, .val (.ref ar), oI fi, oI se, .val (.ref d), .val (.ref co), .val (.ref ec), oI 1] [(.int 256), (.int 256)])) (fun t k => XS.iload X192.here hx rfl (hb hby at_221) rfl  k) ?_
    refine own_st (fr' := (mkF m 226 #[oI p0, oI p1, oI p2, oI 6, oI z121_0, oI 256, oI 4, .val (.ref ar), oI fi, oI se, .val (.ref d), .val (.ref co), .val (.ref ec), oI 1] [])) (fun t k => XS.icmpNo X192.here hx rfl (hb hby at_223) rfl (own_teq (x := (256 : Int32)) (y := (256 : Int32)) (show 256 = 256 from by decide)).2 k) ?_
    refine own_st (fr' := (mkF m 227 #[oI p0, oI p1, oI p2, oI 6, oI z121_0, oI 256, oI 4, .val (.ref ar), oI fi, oI se, .val (.ref d), .val (.ref co), .val (.ref ec), oI 1] [(.int 1)])) (fun t k => XS.iconst X192.here hx rfl (hb hby at_226) k) ?_
    refine own_st (fr' := (mkF m 231 #[oI p0, oI p1, oI p2, oI 6, oI z121_0, oI 256, oI 4, .val (.ref ar), oI fi, oI se, .val (.ref d), .val (.ref co), .val (.ref ec), oI 1] [(.int 1)])) (fun t k => XS.goto X192.here hx rfl (pc0 := 227) (pc' := 231) rfl (hb hby at_227) (by decide) (by decide) k) ?_
    refine own_st (fr' := (mkF m 233 #[oI p0, oI p1, oI p2, oI 6, oI z121_0, oI 256, oI 4, .val (.ref ar), oI fi, oI se, .val (.ref d), .val (.ref co), .val (.ref ec), oI 1] [])) (fun t k => XS.istore X192.here hx rfl (hb hby at_231) rfl  (l' := #[oI p0, oI p1, oI p2, oI 6, oI z121_0, oI 256, oI 4, .val (.ref ar), oI fi, oI se, .val (.ref d), .val (.ref co), .val (.ref ec), oI 1]) rfl k) ?_
    refine own_st (fr' := (mkF m 235 #[oI p0, oI p1, oI p2, oI 6, oI z121_0, oI 256, oI 4, .val (.ref ar), oI fi, oI se, .val (.ref d), .val (.ref co), .val (.ref ec), oI 1] [(.int 1)])) (fun t k => XS.iload X192.here hx rfl (hb hby at_233) rfl  k) ?_
    refine own_st (fr' := (mkF m 238 #[oI p0, oI p1, oI p2, oI 6, oI z121_0, oI 256, oI 4, .val (.ref ar), oI fi, oI se, .val (.ref d), .val (.ref co), .val (.ref ec), oI 1] [])) (fun t k => XS.ifNo X192.here hx rfl (hb hby at_235) rfl ((if0 _ _).trans (own_feq (x := (1 : Int32)) (y := (0 : Int32)) (show ¬ 1 = 0 from by decide)).1) k) ?_
    refine own_st (fr' := (mkF m 240 #[oI p0, oI p1, oI p2, oI 6, oI z121_0, oI 256, oI 4, .val (.ref ar), oI fi, oI se, .val (.ref d), .val (.ref co), .val (.ref ec), oI 1] [(.ref ec)])) (fun t k => XS.aload X192.here hx rfl (hb hby at_238) rfl rfl k) ?_
    refine own_alen X192 hx hZ eq192 VE (hb hby at_240) ?_
    refine own_st (fr' := (mkF m 243 #[oI p0, oI p1, oI p2, oI 6, oI z121_0, oI 256, oI 4, .val (.ref ar), oI fi, oI se, .val (.ref d), .val (.ref co), .val (.ref ec), oI 1] [(.ref ar), (.int 260)])) (fun t k => XS.aload X192.here hx rfl (hb hby at_241) rfl rfl k) ?_
    refine own_alen X192 hx hZ eq192 (((VF.keep K189 nin0).keep K190 nin0).keep K191 nin0) (hb hby at_243) ?_
    refine own_st (fr' := (mkF m 247 #[oI p0, oI p1, oI p2, oI 6, oI z121_0, oI 256, oI 4, .val (.ref ar), oI fi, oI se, .val (.ref d), .val (.ref co), .val (.ref ec), oI 1] [])) (fun t k => XS.icmpNo X192.here hx rfl (hb hby at_244) rfl (own_teq (x := (260 : Int32)) (y := (260 : Int32)) (show 260 = 260 from by decide)).2 k) ?_
    refine own_st (fr' := (mkF m 248 #[oI p0, oI p1, oI p2, oI 6, oI z121_0, oI 256, oI 4, .val (.ref ar), oI fi, oI se, .val (.ref d), .val (.ref co), .val (.ref ec), oI 1] [(.int 1)])) (fun t k => XS.iconst X192.here hx rfl (hb hby at_247) k) ?_
    refine own_st (fr' := (mkF m 252 #[oI p0, oI p1, oI p2, oI 6, oI z121_0, oI 256, oI 4, .val (.ref ar), oI fi, oI se, .val (.ref d), .val (.ref co), .val (.ref ec), oI 1] [(.int 1)])) (fun t k => XS.goto X192.here hx rfl (pc0 := 248) (pc' := 252) rfl (hb hby at_248) (by decide) (by decide) k) ?_
    refine own_st (fr' := (mkF m 254 #[oI p0, oI p1, oI p2, oI 6, oI z121_0, oI 256, oI 4, .val (.ref ar), oI fi, oI se, .val (.ref d), .val (.ref co), .val (.ref ec), oI 1] [])) (fun t k => XS.istore X192.here hx rfl (hb hby at_252) rfl  (l' := #[oI p0, oI p1, oI p2, oI 6, oI z121_0, oI 256, oI 4, .val (.ref ar), oI fi, oI se, .val (.ref d), .val (.ref co), .val (.ref ec), oI 1]) rfl k) ?_
    refine own_st (fr' := (mkF m 256 #[oI p0, oI p1, oI p2, oI 6, oI z121_0, oI 256, oI 4, .val (.ref ar), oI fi, oI se, .val (.ref d), .val (.ref co), .val (.ref ec), oI 1] [(.int 1)])) (fun t k => XS.iload X192.here hx rfl (hb hby at_254) rfl  k) ?_
    refine own_st (fr' := (mkF m 259 #[oI p0, oI p1, oI p2, oI 6, oI z121_0, oI 256, oI 4, .val (.ref ar), oI fi, oI se, .val (.ref d), .val (.ref co), .val (.ref ec), oI 1] [])) (fun t k => XS.ifNo X192.here hx rfl (hb hby at_256) rfl ((if0 _ _).trans (own_feq (x := (1 : Int32)) (y := (0 : Int32)) (show ¬ 1 = 0 from by decide)).1) k) ?_
    refine own_st (fr' := (mkF m 261 #[oI p0, oI p1, oI p2, oI 6, oI z121_0, oI 256, oI 4, .val (.ref ar), oI fi, oI se, .val (.ref d), .val (.ref co), .val (.ref ec), oI 1] [(.ref ec)])) (fun t k => XS.aload X192.here hx rfl (hb hby at_259) rfl rfl k) ?_
    refine own_st (fr' := (mkF m 262 #[oI p0, oI p1, oI p2, oI 6, oI z121_0, oI 256, oI 4, .val (.ref ar), oI fi, oI se, .val (.ref d), .val (.ref co), .val (.ref ec), oI 1] [(.int 0), (.ref ec)])) (fun t k => XS.iconst X192.here hx rfl (hb hby at_261) k) ?_
    refine own_baload (j := (0 : Int32)) X192 hx hZ eq192 VE (by decide) (by decide) (v := (.int tb)) (hv0) (hb hby at_262) ?_
    refine own_st (fr' := (mkF m 265 #[oI p0, oI p1, oI p2, oI 6, oI z121_0, oI 256, oI 4, .val (.ref ar), oI fi, oI se, .val (.ref d), .val (.ref co), .val (.ref ec), oI 1] [(.ref ar), (.int tb)])) (fun t k => XS.aload X192.here hx rfl (hb hby at_263) rfl rfl k) ?_
    refine own_st (fr' := (mkF m 266 #[oI p0, oI p1, oI p2, oI 6, oI z121_0, oI 256, oI 4, .val (.ref ar), oI fi, oI se, .val (.ref d), .val (.ref co), .val (.ref ec), oI 1] [(.int 0), (.ref ar), (.int tb)])) (fun t k => XS.iconst X192.here hx rfl (hb hby at_265) k) ?_
    refine own_baload (j := (0 : Int32)) X192 hx hZ eq192 (((VF.keep K189 nin0).keep K190 nin0).keep K191 nin0) (by decide) (by decide) (v := (.int tb)) (hv0) (hb hby at_266) ?_
    refine own_st (fr' := (mkF m 270 #[oI p0, oI p1, oI p2, oI 6, oI z121_0, oI 256, oI 4, .val (.ref ar), oI fi, oI se, .val (.ref d), .val (.ref co), .val (.ref ec), oI 1] [])) (fun t k => XS.icmpNo X192.here hx rfl (hb hby at_267) rfl (own_teq (x := tb) (y := tb) (show tb.toInt = tb.toInt from rfl)).2 k) ?_
    refine own_st (fr' := (mkF m 272 #[oI p0, oI p1, oI p2, oI 6, oI z121_0, oI 256, oI 4, .val (.ref ar), oI fi, oI se, .val (.ref d), .val (.ref co), .val (.ref ec), oI 1] [(.ref ec)])) (fun t k => XS.aload X192.here hx rfl (hb hby at_270) rfl rfl k) ?_
    refine own_st (fr' := (mkF m 273 #[oI p0, oI p1, oI p2, oI 6, oI z121_0, oI 256, oI 4, .val (.ref ar), oI fi, oI se, .val (.ref d), .val (.ref co), .val (.ref ec), oI 1] [(.int 1), (.ref ec)])) (fun t k => XS.iconst X192.here hx rfl (hb hby at_272) k) ?_
    refine own_baload (j := (1 : Int32)) X192 hx hZ eq192 VE (by decide) (by decide) (v := (.int (-126 : Int32))) (hv1) (hb hby at_273) ?_
    refine own_st (fr' := (mkF m 276 #[oI p0, oI p1, oI p2, oI 6, oI z121_0, oI 256, oI 4, .val (.ref ar), oI fi, oI se, .val (.ref d), .val (.ref co), .val (.ref ec), oI 1] [(.ref ar), (.int (-126 : Int32))])) (fun t k => XS.aload X192.here hx rfl (hb hby at_274) rfl rfl k) ?_
    refine own_st (fr' := (mkF m 277 #[oI p0, oI p1, oI p2, oI 6, oI z121_0, oI 256, oI 4, .val (.ref ar), oI fi, oI se, .val (.ref d), .val (.ref co), .val (.ref ec), oI 1] [(.int 1), (.ref ar), (.int (-126 : Int32))])) (fun t k => XS.iconst X192.here hx rfl (hb hby at_276) k) ?_
    refine own_baload (j := (1 : Int32)) X192 hx hZ eq192 (((VF.keep K189 nin0).keep K190 nin0).keep K191 nin0) (by decide) (by decide) (v := (.int (-126 : Int32))) (hv1) (hb hby at_277) ?_
    refine own_st (fr' := (mkF m 281 #[oI p0, oI p1, oI p2, oI 6, oI z121_0, oI 256, oI 4, .val (.ref ar), oI fi, oI se, .val (.ref d), .val (.ref co), .val (.ref ec), oI 1] [])) (fun t k => XS.icmpNo X192.here hx rfl (hb hby at_278) rfl (own_teq (x := (-126 : Int32)) (y := (-126 : Int32)) (show (-126) = (-126) from by decide)).2 k) ?_
    refine own_st (fr' := (mkF m 283 #[oI p0, oI p1, oI p2, oI 6, oI z121_0, oI 256, oI 4, .val (.ref ar), oI fi, oI se, .val (.ref d), .val (.ref co), .val (.ref ec), oI 1] [(.ref ec)])) (fun t k => XS.aload X192.here hx rfl (hb hby at_281) rfl rfl k) ?_
    refine own_st (fr' := (mkF m 285 #[oI p0, oI p1, oI p2, oI 6, oI z121_0, oI 256, oI 4, .val (.ref ar), oI fi, oI se, .val (.ref d), .val (.ref co), .val (.ref ec), oI 1] [(.int 4), (.ref ec)])) (fun t k => XS.iload X192.here hx rfl (hb hby at_283) rfl  k) ?_
    refine own_st (fr' := (mkF m 286 #[oI p0, oI p1, oI p2, oI 6, oI z121_0, oI 256, oI 4, .val (.ref ar), oI fi, oI se, .val (.ref d), .val (.ref co), .val (.ref ec), oI 1] [(.int 1), (.int 4), (.ref ec)])) (fun t k => XS.iconst X192.here hx rfl (hb hby at_285) k) ?_
    refine own_st (fr' := (mkF m 287 #[oI p0, oI p1, oI p2, oI 6, oI z121_0, oI 256, oI 4, .val (.ref ar), oI fi, oI se, .val (.ref d), .val (.ref co), .val (.ref ec), oI 1] [(.int 3), (.ref ec)])) (fun t k => XS.isub X192.here hx rfl (hb hby at_286) rfl k) ?_
    refine own_baload (j := (3 : Int32)) X192 hx hZ eq192 VE (by decide) (by decide) (v := (.int 0)) (hv3) (hb hby at_287) ?_
    refine own_st (fr' := (mkF m 290 #[oI p0, oI p1, oI p2, oI 6, oI z121_0, oI 256, oI 4, .val (.ref ar), oI fi, oI se, .val (.ref d), .val (.ref co), .val (.ref ec), oI 1] [(.ref ar), (.int 0)])) (fun t k => XS.aload X192.here hx rfl (hb hby at_288) rfl rfl k) ?_
    refine own_st (fr' := (mkF m 292 #[oI p0, oI p1, oI p2, oI 6, oI z121_0, oI 256, oI 4, .val (.ref ar), oI fi, oI se, .val (.ref d), .val (.ref co), .val (.ref ec), oI 1] [(.int 4), (.ref ar), (.int 0)])) (fun t k => XS.iload X192.here hx rfl (hb hby at_290) rfl  k) ?_
    refine own_st (fr' := (mkF m 293 #[oI p0, oI p1, oI p2, oI 6, oI z121_0, oI 256, oI 4, .val (.ref ar), oI fi, oI se, .val (.ref d), .val (.ref co), .val (.ref ec), oI 1] [(.int 1), (.int 4), (.ref ar), (.int 0)])) (fun t k => XS.iconst X192.here hx rfl (hb hby at_292) k) ?_
    refine own_st (fr' := (mkF m 294 #[oI p0, oI p1, oI p2, oI 6, oI z121_0, oI 256, oI 4, .val (.ref ar), oI fi, oI se, .val (.ref d), .val (.ref co), .val (.ref ec), oI 1] [(.int 3), (.ref ar), (.int 0)])) (fun t k => XS.isub X192.here hx rfl (hb hby at_293) rfl k) ?_
    refine own_baload (j := (3 : Int32)) X192 hx hZ eq192 (((VF.keep K189 nin0).keep K190 nin0).keep K191 nin0) (by decide) (by decide) (v := (.int 0)) (hv3) (hb hby at_294) ?_
    refine own_st (fr' := (mkF m 298 #[oI p0, oI p1, oI p2, oI 6, oI z121_0, oI 256, oI 4, .val (.ref ar), oI fi, oI se, .val (.ref d), .val (.ref co), .val (.ref ec), oI 1] [])) (fun t k => XS.icmpNo X192.here hx rfl (hb hby at_295) rfl (own_teq (x := (0 : Int32)) (y := (0 : Int32)) (show 0 = 0 from by decide)).2 k) ?_
    refine own_st (fr' := (mkF m 299 #[oI p0, oI p1, oI p2, oI 6, oI z121_0, oI 256, oI 4, .val (.ref ar), oI fi, oI se, .val (.ref d), .val (.ref co), .val (.ref ec), oI 1] [(.int 1)])) (fun t k => XS.iconst X192.here hx rfl (hb hby at_298) k) ?_
    refine own_st (fr' := (mkF m 303 #[oI p0, oI p1, oI p2, oI 6, oI z121_0, oI 256, oI 4, .val (.ref ar), oI fi, oI se, .val (.ref d), .val (.ref co), .val (.ref ec), oI 1] [(.int 1)])) (fun t k => XS.goto X192.here hx rfl (pc0 := 299) (pc' := 303) rfl (hb hby at_299) (by decide) (by decide) k) ?_
    refine own_st (fr' := (mkF m 305 #[oI p0, oI p1, oI p2, oI 6, oI z121_0, oI 256, oI 4, .val (.ref ar), oI fi, oI se, .val (.ref d), .val (.ref co), .val (.ref ec), oI 1] [])) (fun t k => XS.istore X192.here hx rfl (hb hby at_303) rfl  (l' := #[oI p0, oI p1, oI p2, oI 6, oI z121_0, oI 256, oI 4, .val (.ref ar), oI fi, oI se, .val (.ref d), .val (.ref co), .val (.ref ec), oI 1]) rfl k) ?_
    refine own_st (fr' := (mkF m 307 #[oI p0, oI p1, oI p2, oI 6, oI z121_0, oI 256, oI 4, .val (.ref ar), oI fi, oI se, .val (.ref d), .val (.ref co), .val (.ref ec), oI 1] [(.int 1)])) (fun t k => XS.iload X192.here hx rfl (hb hby at_305) rfl  k) ?_
    refine own_st (fr' := (mkF m 310 #[oI p0, oI p1, oI p2, oI 6, oI z121_0, oI 256, oI 4, .val (.ref ar), oI fi, oI se, .val (.ref d), .val (.ref co), .val (.ref ec), oI 1] [])) (fun t k => XS.ifNo X192.here hx rfl (hb hby at_307) rfl ((if0 _ _).trans (own_feq (x := (1 : Int32)) (y := (0 : Int32)) (show ¬ 1 = 0 from by decide)).1) k) ?_
    refine own_st (fr' := (mkF m 312 #[oI p0, oI p1, oI p2, oI 6, oI z121_0, oI 256, oI 4, .val (.ref ar), oI fi, oI se, .val (.ref d), .val (.ref co), .val (.ref ec), oI 1] [(.int 256)])) (fun t k => XS.iload X192.here hx rfl (hb hby at_310) rfl  k) ?_
    refine own_st (fr' := (mkF m 313 #[oI p0, oI p1, oI p2, oI 6, oI z121_0, oI 256, oI 4, .val (.ref ar), oI fi, oI se, .val (.ref d), .val (.ref co), .val (.ref ec), oI 1] [(.int 1), (.int 256)])) (fun t k => XS.iconst X192.here hx rfl (hb hby at_312) k) ?_
    refine own_st (fr' := (mkF m 316 #[oI p0, oI p1, oI p2, oI 6, oI z121_0, oI 256, oI 4, .val (.ref ar), oI fi, oI se, .val (.ref d), .val (.ref co), .val (.ref ec), oI 1] [])) (fun t k => XS.icmpNo X192.here hx rfl (hb hby at_313) rfl (own_flt (x := (256 : Int32)) (y := (1 : Int32)) (show ¬ 256 < 1 from by decide)).1 k) ?_
    refine own_st (fr' := (mkF m 318 #[oI p0, oI p1, oI p2, oI 6, oI z121_0, oI 256, oI 4, .val (.ref ar), oI fi, oI se, .val (.ref d), .val (.ref co), .val (.ref ec), oI 1] [(.ref co)])) (fun t k => XS.aload X192.here hx rfl (hb hby at_316) rfl rfl k) ?_
    refine own_st (fr' := (mkF m 319 #[oI p0, oI p1, oI p2, oI 6, oI z121_0, oI 256, oI 4, .val (.ref ar), oI fi, oI se, .val (.ref d), .val (.ref co), .val (.ref ec), oI 1] [(.int 0), (.ref co)])) (fun t k => XS.iconst X192.here hx rfl (hb hby at_318) k) ?_
    refine own_baload (j := (0 : Int32)) X192 hx hZ eq192 (VC.keep K191 nin0) (by decide) (by decide) (v := (.int fi)) ((hgc 0 (by decide)).trans hv4) (hb hby at_319) ?_
    refine own_st (fr' := (mkF m 322 #[oI p0, oI p1, oI p2, oI 6, oI z121_0, oI 256, oI 4, .val (.ref ar), oI fi, oI se, .val (.ref d), .val (.ref co), .val (.ref ec), oI 1] [(.int fi), (.int fi)])) (fun t k => XS.iload X192.here hx rfl (hb hby at_320) rfl  k) ?_
    refine own_st (fr' := (mkF m 325 #[oI p0, oI p1, oI p2, oI 6, oI z121_0, oI 256, oI 4, .val (.ref ar), oI fi, oI se, .val (.ref d), .val (.ref co), .val (.ref ec), oI 1] [])) (fun t k => XS.icmpNo X192.here hx rfl (hb hby at_322) rfl (own_teq (x := fi) (y := fi) (show fi.toInt = fi.toInt from rfl)).2 k) ?_
    refine own_st (fr' := (mkF m 327 #[oI p0, oI p1, oI p2, oI 6, oI z121_0, oI 256, oI 4, .val (.ref ar), oI fi, oI se, .val (.ref d), .val (.ref co), .val (.ref ec), oI 1] [(.ref ec)])) (fun t k => XS.aload X192.here hx rfl (hb hby at_325) rfl rfl k) ?_
    refine own_st (fr' := (mkF m 329 #[oI p0, oI p1, oI p2, oI 6, oI z121_0, oI 256, oI 4, .val (.ref ar), oI fi, oI se, .val (.ref d), .val (.ref co), .val (.ref ec), oI 1] [(.int 4), (.ref ec)])) (fun t k => XS.iload X192.here hx rfl (hb hby at_327) rfl  k) ?_
    refine own_baload (j := (4 : Int32)) X192 hx hZ eq192 VE (by decide) (by decide) (v := (.int fi)) (hv4) (hb hby at_329) ?_
    refine own_st (fr' := (mkF m 332 #[oI p0, oI p1, oI p2, oI 6, oI z121_0, oI 256, oI 4, .val (.ref ar), oI fi, oI se, .val (.ref d), .val (.ref co), .val (.ref ec), oI 1] [(.int fi), (.int fi)])) (fun t k => XS.iload X192.here hx rfl (hb hby at_330) rfl  k) ?_
    refine own_st (fr' := (mkF m 335 #[oI p0, oI p1, oI p2, oI 6, oI z121_0, oI 256, oI 4, .val (.ref ar), oI fi, oI se, .val (.ref d), .val (.ref co), .val (.ref ec), oI 1] [])) (fun t k => XS.icmpNo X192.here hx rfl (hb hby at_332) rfl (own_teq (x := fi) (y := fi) (show fi.toInt = fi.toInt from rfl)).2 k) ?_
    refine own_st (fr' := (mkF m 336 #[oI p0, oI p1, oI p2, oI 6, oI z121_0, oI 256, oI 4, .val (.ref ar), oI fi, oI se, .val (.ref d), .val (.ref co), .val (.ref ec), oI 1] [(.int 1)])) (fun t k => XS.iconst X192.here hx rfl (hb hby at_335) k) ?_
    refine own_st (fr' := (mkF m 340 #[oI p0, oI p1, oI p2, oI 6, oI z121_0, oI 256, oI 4, .val (.ref ar), oI fi, oI se, .val (.ref d), .val (.ref co), .val (.ref ec), oI 1] [(.int 1)])) (fun t k => XS.goto X192.here hx rfl (pc0 := 336) (pc' := 340) rfl (hb hby at_336) (by decide) (by decide) k) ?_
    refine own_st (fr' := (mkF m 342 #[oI p0, oI p1, oI p2, oI 6, oI z121_0, oI 256, oI 4, .val (.ref ar), oI fi, oI se, .val (.ref d), .val (.ref co), .val (.ref ec), oI 1] [])) (fun t k => XS.istore X192.here hx rfl (hb hby at_340) rfl  (l' := #[oI p0, oI p1, oI p2, oI 6, oI z121_0, oI 256, oI 4, .val (.ref ar), oI fi, oI se, .val (.ref d), .val (.ref co), .val (.ref ec), oI 1]) rfl k) ?_
    refine own_st (fr' := (mkF m 344 #[oI p0, oI p1, oI p2, oI 6, oI z121_0, oI 256, oI 4, .val (.ref ar), oI fi, oI se, .val (.ref d), .val (.ref co), .val (.ref ec), oI 1] [(.int 1)])) (fun t k => XS.iload X192.here hx rfl (hb hby at_342) rfl  k) ?_
    refine own_st (fr' := (mkF m 347 #[oI p0, oI p1, oI p2, oI 6, oI z121_0, oI 256, oI 4, .val (.ref ar), oI fi, oI se, .val (.ref d), .val (.ref co), .val (.ref ec), oI 1] [])) (fun t k => XS.ifNo X192.here hx rfl (hb hby at_344) rfl ((if0 _ _).trans (own_feq (x := (1 : Int32)) (y := (0 : Int32)) (show ¬ 1 = 0 from by decide)).1) k) ?_
    refine own_st (fr' := (mkF m 349 #[oI p0, oI p1, oI p2, oI 6, oI z121_0, oI 256, oI 4, .val (.ref ar), oI fi, oI se, .val (.ref d), .val (.ref co), .val (.ref ec), oI 1] [(.int 256)])) (fun t k => XS.iload X192.here hx rfl (hb hby at_347) rfl  k) ?_
    refine own_st (fr' := (mkF m 350 #[oI p0, oI p1, oI p2, oI 6, oI z121_0, oI 256, oI 4, .val (.ref ar), oI fi, oI se, .val (.ref d), .val (.ref co), .val (.ref ec), oI 1] [(.int 2), (.int 256)])) (fun t k => XS.iconst X192.here hx rfl (hb hby at_349) k) ?_
    refine own_st (fr' := (mkF m 353 #[oI p0, oI p1, oI p2, oI 6, oI z121_0, oI 256, oI 4, .val (.ref ar), oI fi, oI se, .val (.ref d), .val (.ref co), .val (.ref ec), oI 1] [])) (fun t k => XS.icmpNo X192.here hx rfl (hb hby at_350) rfl (own_flt (x := (256 : Int32)) (y := (2 : Int32)) (show ¬ 256 < 2 from by decide)).1 k) ?_
    refine own_st (fr' := (mkF m 355 #[oI p0, oI p1, oI p2, oI 6, oI z121_0, oI 256, oI 4, .val (.ref ar), oI fi, oI se, .val (.ref d), .val (.ref co), .val (.ref ec), oI 1] [(.ref co)])) (fun t k => XS.aload X192.here hx rfl (hb hby at_353) rfl rfl k) ?_
    refine own_st (fr' := (mkF m 357 #[oI p0, oI p1, oI p2, oI 6, oI z121_0, oI 256, oI 4, .val (.ref ar), oI fi, oI se, .val (.ref d), .val (.ref co), .val (.ref ec), oI 1] [(.int 256), (.ref co)])) (fun t k => XS.iload X192.here hx rfl (hb hby at_355) rfl  k) ?_
    refine own_st (fr' := (mkF m 358 #[oI p0, oI p1, oI p2, oI 6, oI z121_0, oI 256, oI 4, .val (.ref ar), oI fi, oI se, .val (.ref d), .val (.ref co), .val (.ref ec), oI 1] [(.int 1), (.int 256), (.ref co)])) (fun t k => XS.iconst X192.here hx rfl (hb hby at_357) k) ?_
    refine own_st (fr' := (mkF m 359 #[oI p0, oI p1, oI p2, oI 6, oI z121_0, oI 256, oI 4, .val (.ref ar), oI fi, oI se, .val (.ref d), .val (.ref co), .val (.ref ec), oI 1] [(.int 255), (.ref co)])) (fun t k => XS.isub X192.here hx rfl (hb hby at_358) rfl k) ?_
    refine own_baload (j := (255 : Int32)) X192 hx hZ eq192 (VC.keep K191 nin0) (by decide) (by decide) (v := (.int se)) ((hgc 255 (by decide)).trans hv259) (hb hby at_359) ?_
    refine own_st (fr' := (mkF m 362 #[oI p0, oI p1, oI p2, oI 6, oI z121_0, oI 256, oI 4, .val (.ref ar), oI fi, oI se, .val (.ref d), .val (.ref co), .val (.ref ec), oI 1] [(.int se), (.int se)])) (fun t k => XS.iload X192.here hx rfl (hb hby at_360) rfl  k) ?_
    refine own_st (fr' := (mkF m 365 #[oI p0, oI p1, oI p2, oI 6, oI z121_0, oI 256, oI 4, .val (.ref ar), oI fi, oI se, .val (.ref d), .val (.ref co), .val (.ref ec), oI 1] [])) (fun t k => XS.icmpNo X192.here hx rfl (hb hby at_362) rfl (own_teq (x := se) (y := se) (show se.toInt = se.toInt from rfl)).2 k) ?_
    refine own_st (fr' := (mkF m 367 #[oI p0, oI p1, oI p2, oI 6, oI z121_0, oI 256, oI 4, .val (.ref ar), oI fi, oI se, .val (.ref d), .val (.ref co), .val (.ref ec), oI 1] [(.ref ec)])) (fun t k => XS.aload X192.here hx rfl (hb hby at_365) rfl rfl k) ?_
    refine own_st (fr' := (mkF m 369 #[oI p0, oI p1, oI p2, oI 6, oI z121_0, oI 256, oI 4, .val (.ref ar), oI fi, oI se, .val (.ref d), .val (.ref co), .val (.ref ec), oI 1] [(.ref ar), (.ref ec)])) (fun t k => XS.aload X192.here hx rfl (hb hby at_367) rfl rfl k) ?_
    refine own_alen X192 hx hZ eq192 (((VF.keep K189 nin0).keep K190 nin0).keep K191 nin0) (hb hby at_369) ?_
    refine own_st (fr' := (mkF m 371 #[oI p0, oI p1, oI p2, oI 6, oI z121_0, oI 256, oI 4, .val (.ref ar), oI fi, oI se, .val (.ref d), .val (.ref co), .val (.ref ec), oI 1] [(.int 1), (.int 260), (.ref ec)])) (fun t k => XS.iconst X192.here hx rfl (hb hby at_370) k) ?_
    refine own_st (fr' := (mkF m 372 #[oI p0, oI p1, oI p2, oI 6, oI z121_0, oI 256, oI 4, .val (.ref ar), oI fi, oI se, .val (.ref d), .val (.ref co), .val (.ref ec), oI 1] [(.int 259), (.ref ec)])) (fun t k => XS.isub X192.here hx rfl (hb hby at_371) rfl k) ?_
    refine own_baload (j := (259 : Int32)) X192 hx hZ eq192 VE (by decide) (by decide) (v := (.int se)) (hv259) (hb hby at_372) ?_
    refine own_st (fr' := (mkF m 375 #[oI p0, oI p1, oI p2, oI 6, oI z121_0, oI 256, oI 4, .val (.ref ar), oI fi, oI se, .val (.ref d), .val (.ref co), .val (.ref ec), oI 1] [(.int se), (.int se)])) (fun t k => XS.iload X192.here hx rfl (hb hby at_373) rfl  k) ?_
    refine own_st (fr' := (mkF m 378 #[oI p0, oI p1, oI p2, oI 6, oI z121_0, oI 256, oI 4, .val (.ref ar), oI fi, oI se, .val (.ref d), .val (.ref co), .val (.ref ec), oI 1] [])) (fun t k => XS.icmpNo X192.here hx rfl (hb hby at_375) rfl (own_teq (x := se) (y := se) (show se.toInt = se.toInt from rfl)).2 k) ?_
    refine own_st (fr' := (mkF m 379 #[oI p0, oI p1, oI p2, oI 6, oI z121_0, oI 256, oI 4, .val (.ref ar), oI fi, oI se, .val (.ref d), .val (.ref co), .val (.ref ec), oI 1] [(.int 1)])) (fun t k => XS.iconst X192.here hx rfl (hb hby at_378) k) ?_
    refine own_st (fr' := (mkF m 383 #[oI p0, oI p1, oI p2, oI 6, oI z121_0, oI 256, oI 4, .val (.ref ar), oI fi, oI se, .val (.ref d), .val (.ref co), .val (.ref ec), oI 1] [(.int 1)])) (fun t k => XS.goto X192.here hx rfl (pc0 := 379) (pc' := 383) rfl (hb hby at_379) (by decide) (by decide) k) ?_
    refine own_st (fr' := (mkF m 385 #[oI p0, oI p1, oI p2, oI 6, oI z121_0, oI 256, oI 4, .val (.ref ar), oI fi, oI se, .val (.ref d), .val (.ref co), .val (.ref ec), oI 1] [])) (fun t k => XS.istore X192.here hx rfl (hb hby at_383) rfl  (l' := #[oI p0, oI p1, oI p2, oI 6, oI z121_0, oI 256, oI 4, .val (.ref ar), oI fi, oI se, .val (.ref d), .val (.ref co), .val (.ref ec), oI 1]) rfl k) ?_
    refine own_st (fr' := (mkF m 387 #[oI p0, oI p1, oI p2, oI 6, oI z121_0, oI 256, oI 4, .val (.ref ar), oI fi, oI se, .val (.ref d), .val (.ref co), .val (.ref ec), oI 1] [(.int 1)])) (fun t k => XS.iload X192.here hx rfl (hb hby at_385) rfl  k) ?_
    refine own_st (fr' := (mkF m 390 #[oI p0, oI p1, oI p2, oI 6, oI z121_0, oI 256, oI 4, .val (.ref ar), oI fi, oI se, .val (.ref d), .val (.ref co), .val (.ref ec), oI 1] [])) (fun t k => XS.ifNo X192.here hx rfl (hb hby at_387) rfl ((if0 _ _).trans (own_feq (x := (1 : Int32)) (y := (0 : Int32)) (show ¬ 1 = 0 from by decide)).1) k) ?_
    refine own_st (fr' := (mkF m 392 #[oI p0, oI p1, oI p2, oI 6, oI z121_0, oI 256, oI 4, .val (.ref ar), oI fi, oI se, .val (.ref d), .val (.ref co), .val (.ref ec), oI 1] [(.int 256)])) (fun t k => XS.iload X192.here hx rfl (hb hby at_390) rfl  k) ?_
    refine own_st (fr' := (mkF m 393 #[oI p0, oI p1, oI p2, oI 6, oI z121_0, oI 256, oI 4, .val (.ref ar), oI fi, oI se, .val (.ref d), .val (.ref co), .val (.ref ec), oI 1] [(.int 3), (.int 256)])) (fun t k => XS.iconst X192.here hx rfl (hb hby at_392) k) ?_
    refine own_st (fr' := (mkF m 396 #[oI p0, oI p1, oI p2, oI 6, oI z121_0, oI 256, oI 4, .val (.ref ar), oI fi, oI se, .val (.ref d), .val (.ref co), .val (.ref ec), oI 1] [])) (fun t k => XS.icmpNo X192.here hx rfl (hb hby at_393) rfl (own_flt (x := (256 : Int32)) (y := (3 : Int32)) (show ¬ 256 < 3 from by decide)).1 k) ?_
    refine own_st (fr' := (mkF m 398 #[oI p0, oI p1, oI p2, oI 6, oI z121_0, oI 256, oI 4, .val (.ref ar), oI fi, oI se, .val (.ref d), .val (.ref co), .val (.ref ec), oI 1] [(.ref co)])) (fun t k => XS.aload X192.here hx rfl (hb hby at_396) rfl rfl k) ?_
    refine own_st (fr' := (mkF m 399 #[oI p0, oI p1, oI p2, oI 6, oI z121_0, oI 256, oI 4, .val (.ref ar), oI fi, oI se, .val (.ref d), .val (.ref co), .val (.ref ec), oI 1] [(.int 1), (.ref co)])) (fun t k => XS.iconst X192.here hx rfl (hb hby at_398) k) ?_
    refine own_baload (j := (1 : Int32)) X192 hx hZ eq192 (VC.keep K191 nin0) (by decide) (by decide) (v := (.int 0)) ((hgc 1 (by decide)).trans hvz) (hb hby at_399) ?_
    refine own_st (fr' := (mkF m 403 #[oI p0, oI p1, oI p2, oI 6, oI z121_0, oI 256, oI 4, .val (.ref ar), oI fi, oI se, .val (.ref d), .val (.ref co), .val (.ref ec), oI 1] [])) (fun t k => XS.ifNo X192.here hx rfl (hb hby at_400) rfl ((if0 _ _).trans (own_teq (x := (0 : Int32)) (y := (0 : Int32)) (show 0 = 0 from by decide)).2) k) ?_
    refine own_st (fr' := (mkF m 405 #[oI p0, oI p1, oI p2, oI 6, oI z121_0, oI 256, oI 4, .val (.ref ar), oI fi, oI se, .val (.ref d), .val (.ref co), .val (.ref ec), oI 1] [(.ref ec)])) (fun t k => XS.aload X192.here hx rfl (hb hby at_403) rfl rfl k) ?_
    refine own_st (fr' := (mkF m 407 #[oI p0, oI p1, oI p2, oI 6, oI z121_0, oI 256, oI 4, .val (.ref ar), oI fi, oI se, .val (.ref d), .val (.ref co), .val (.ref ec), oI 1] [(.int 4), (.ref ec)])) (fun t k => XS.iload X192.here hx rfl (hb hby at_405) rfl  k) ?_
    refine own_st (fr' := (mkF m 408 #[oI p0, oI p1, oI p2, oI 6, oI z121_0, oI 256, oI 4, .val (.ref ar), oI fi, oI se, .val (.ref d), .val (.ref co), .val (.ref ec), oI 1] [(.int 1), (.int 4), (.ref ec)])) (fun t k => XS.iconst X192.here hx rfl (hb hby at_407) k) ?_
    refine own_st (fr' := (mkF m 409 #[oI p0, oI p1, oI p2, oI 6, oI z121_0, oI 256, oI 4, .val (.ref ar), oI fi, oI se, .val (.ref d), .val (.ref co), .val (.ref ec), oI 1] [(.int 5), (.ref ec)])) (fun t k => XS.iadd X192.here hx rfl (hb hby at_408) rfl k) ?_
    refine own_baload (j := (5 : Int32)) X192 hx hZ eq192 VE (by decide) (by decide) (v := (.int 0)) (hvz) (hb hby at_409) ?_
    refine own_st (fr' := (mkF m 413 #[oI p0, oI p1, oI p2, oI 6, oI z121_0, oI 256, oI 4, .val (.ref ar), oI fi, oI se, .val (.ref d), .val (.ref co), .val (.ref ec), oI 1] [])) (fun t k => XS.ifNo X192.here hx rfl (hb hby at_410) rfl ((if0 _ _).trans (own_teq (x := (0 : Int32)) (y := (0 : Int32)) (show 0 = 0 from by decide)).2) k) ?_
    refine own_st (fr' := (mkF m 414 #[oI p0, oI p1, oI p2, oI 6, oI z121_0, oI 256, oI 4, .val (.ref ar), oI fi, oI se, .val (.ref d), .val (.ref co), .val (.ref ec), oI 1] [(.int 1)])) (fun t k => XS.iconst X192.here hx rfl (hb hby at_413) k) ?_
    refine own_st (fr' := (mkF m 418 #[oI p0, oI p1, oI p2, oI 6, oI z121_0, oI 256, oI 4, .val (.ref ar), oI fi, oI se, .val (.ref d), .val (.ref co), .val (.ref ec), oI 1] [(.int 1)])) (fun t k => XS.goto X192.here hx rfl (pc0 := 414) (pc' := 418) rfl (hb hby at_414) (by decide) (by decide) k) ?_
    refine own_st (fr' := (mkF m 420 #[oI p0, oI p1, oI p2, oI 6, oI z121_0, oI 256, oI 4, .val (.ref ar), oI fi, oI se, .val (.ref d), .val (.ref co), .val (.ref ec), oI 1] [])) (fun t k => XS.istore X192.here hx rfl (hb hby at_418) rfl  (l' := #[oI p0, oI p1, oI p2, oI 6, oI z121_0, oI 256, oI 4, .val (.ref ar), oI fi, oI se, .val (.ref d), .val (.ref co), .val (.ref ec), oI 1]) rfl k) ?_
    refine own_st (fr' := (mkF m 422 #[oI p0, oI p1, oI p2, oI 6, oI z121_0, oI 256, oI 4, .val (.ref ar), oI fi, oI se, .val (.ref d), .val (.ref co), .val (.ref ec), oI 1] [(.int 1)])) (fun t k => XS.iload X192.here hx rfl (hb hby at_420) rfl  k) ?_
    exact own_retZ X192 hx hlk hret (Or.inr rfl) (hb hby at_422) (by decide) (by decide) (⟨rfl, N192⟩)
  · obtain rfl : fo = (7 : Int32) := Int32.toInt_inj.mp hfo
    refine own_st (fr' := (mkF m 29 #[oI p0, oI p1, oI p2, oI 7, oI z121_0, .unset, .unset, .unset, .unset, .unset, .unset, .unset, .unset, .unset] [(.int 7)])) (fun t k => XS.iloadN X0.here hx rfl (hb hby at_28) rfl  k) ?_
    refine own_callS X0 hx hZ (y := (⟨"com/example/linkvouch/linkvouch/apk/DerParsePinLaw", "lengthOf", "(I)I"⟩ : MethodName)) hown (hw _ (List.mem_of_getElem? (i := 0) rfl)) (hw _ (List.mem_of_getElem? (i := 1) rfl)) (hw _ (List.mem_of_getElem? (i := 2) rfl)) (hw _ (List.mem_of_getElem? (i := 3) rfl)) (by decide) (argsL := [(.int 7)]) (rest := []) (W := 0) (rm_len7 l Z a0 hw []  h0 n0 Z0 ) e0 (by rw [hml]; rfl) (lenOf pd_5 rfl) rfl (Nat.le_of_eq rfl) (hb hby at_29) (by decide) (by decide) (by decide) (by decide) ?_
    intro v193 T193 L193 X193 hQ193
    obtain ⟨rfl, Nq193, eq193⟩ := hQ193
    have N193 := Fr.app N0 Nq193
    refine own_st (fr' := (mkF m 34 #[oI p0, oI p1, oI p2, oI 7, oI z121_0, oI 300, .unset, .unset, .unset, .unset, .unset, .unset, .unset, .unset] [])) (fun t k => XS.istore X193.here hx rfl (hb hby at_32) rfl  (l' := #[oI p0, oI p1, oI p2, oI 7, oI z121_0, oI 300, .unset, .unset, .unset, .unset, .unset, .unset, .unset, .unset]) rfl k) ?_
    refine own_st (fr' := (mkF m 35 #[oI p0, oI p1, oI p2, oI 7, oI z121_0, oI 300, .unset, .unset, .unset, .unset, .unset, .unset, .unset, .unset] [(.int 7)])) (fun t k => XS.iloadN X193.here hx rfl (hb hby at_34) rfl  k) ?_
    refine own_st (fr' := (mkF m 36 #[oI p0, oI p1, oI p2, oI 7, oI z121_0, oI 300, .unset, .unset, .unset, .unset, .unset, .unset, .unset, .unset] [(.int 4), (.int 7)])) (fun t k => XS.iconst X193.here hx rfl (hb hby at_35) k) ?_
    refine own_st (fr' := (mkF m 45 #[oI p0, oI p1, oI p2, oI 7, oI z121_0, oI 300, .unset, .unset, .unset, .unset, .unset, .unset, .unset, .unset] [])) (fun t k => XS.icmpYes X193.here hx rfl (pc0 := 36) (pc' := 45) rfl (hb hby at_36) rfl (own_flt (x := (7 : Int32)) (y := (4 : Int32)) (show ¬ 7 < 4 from by decide)).2.1 (by decide) (by decide) k) ?_
    refine own_st (fr' := (mkF m 46 #[oI p0, oI p1, oI p2, oI 7, oI z121_0, oI 300, .unset, .unset, .unset, .unset, .unset, .unset, .unset, .unset] [(.int 7)])) (fun t k => XS.iloadN X193.here hx rfl (hb hby at_45) rfl  k) ?_
    refine own_st (fr' := (mkF m 48 #[oI p0, oI p1, oI p2, oI 7, oI z121_0, oI 300, .unset, .unset, .unset, .unset, .unset, .unset, .unset, .unset] [(.int 6), (.int 7)])) (fun t k => XS.bipush X193.here hx rfl (hb hby at_46) k) ?_
    refine own_st (fr' := (mkF m 57 #[oI p0, oI p1, oI p2, oI 7, oI z121_0, oI 300, .unset, .unset, .unset, .unset, .unset, .unset, .unset, .unset] [])) (fun t k => XS.icmpYes X193.here hx rfl (pc0 := 48) (pc' := 57) rfl (hb hby at_48) rfl (own_flt (x := (7 : Int32)) (y := (6 : Int32)) (show ¬ 7 < 6 from by decide)).2.1 (by decide) (by decide) k) ?_
    refine own_st (fr' := (mkF m 58 #[oI p0, oI p1, oI p2, oI 7, oI z121_0, oI 300, .unset, .unset, .unset, .unset, .unset, .unset, .unset, .unset] [(.int 4)])) (fun t k => XS.iconst X193.here hx rfl (hb hby at_57) k) ?_
    refine own_st (fr' := (mkF m 60 #[oI p0, oI p1, oI p2, oI 7, oI z121_0, oI 300, oI 4, .unset, .unset, .unset, .unset, .unset, .unset, .unset] [])) (fun t k => XS.istore X193.here hx rfl (hb hby at_58) rfl  (l' := #[oI p0, oI p1, oI p2, oI 7, oI z121_0, oI 300, oI 4, .unset, .unset, .unset, .unset, .unset, .unset, .unset]) rfl k) ?_
    refine own_st (fr' := (mkF m 61 #[oI p0, oI p1, oI p2, oI 7, oI z121_0, oI 300, oI 4, .unset, .unset, .unset, .unset, .unset, .unset, .unset] [(.int 7)])) (fun t k => XS.iloadN X193.here hx rfl (hb hby at_60) rfl  k) ?_
    refine own_callS X193 hx hZ (y := (⟨"com/example/linkvouch/linkvouch/apk/DerParsePinLaw", "alloc", "(I)[B"⟩ : MethodName)) hown (hw _ (List.mem_of_getElem? (i := 4) rfl)) (hw _ (List.mem_of_getElem? (i := 5) rfl)) (hw _ (List.mem_of_getElem? (i := 2) rfl)) (hw _ (List.mem_of_getElem? (i := 6) rfl)) (by decide) (argsL := [(.int 7)]) (rest := []) (W := 0) (rm_alloc7 l Z a0 hw []  h0 n0 Z0 ) eq193 (by rw [hml]; rfl) (lenOf pd_6 rfl) rfl (Nat.le_of_eq rfl) (hb hby at_61) (by decide) (by decide) (by decide) (by decide) ?_
    intro v194 T194 L194 X194 hQ194
    obtain ⟨⟨ar, rfl, har, ge_ar, VA, EA⟩, Nq194, K194⟩ := hQ194
    have N194 := Fr.app N193 Nq194
    refine own_st (fr' := (mkF m 66 #[oI p0, oI p1, oI p2, oI 7, oI z121_0, oI 300, oI 4, .val (.ref ar), .unset, .unset, .unset, .unset, .unset, .unset] [])) (fun t k => XS.astore X194.here hx rfl (hb hby at_64) rfl rfl (l' := #[oI p0, oI p1, oI p2, oI 7, oI z121_0, oI 300, oI 4, .val (.ref ar), .unset, .unset, .unset, .unset, .unset, .unset]) rfl k) ?_
    refine own_st (fr' := (mkF m 68 #[oI p0, oI p1, oI p2, oI 7, oI z121_0, oI 300, oI 4, .val (.ref ar), .unset, .unset, .unset, .unset, .unset, .unset] [(.ref ar)])) (fun t k => XS.aload X194.here hx rfl (hb hby at_66) rfl rfl k) ?_
    refine own_st (fr' := (mkF m 69 #[oI p0, oI p1, oI p2, oI 7, oI z121_0, oI 300, oI 4, .val (.ref ar), .unset, .unset, .unset, .unset, .unset, .unset] [(.int 0), (.ref ar)])) (fun t k => XS.iconst X194.here hx rfl (hb hby at_68) k) ?_
    refine own_st (fr' := (mkF m 71 #[oI p0, oI p1, oI p2, oI 7, oI z121_0, oI 300, oI 4, .val (.ref ar), .unset, .unset, .unset, .unset, .unset, .unset] [(.int z121_0), (.int 0), (.ref ar)])) (fun t k => XS.iload X194.here hx rfl (hb hby at_69) rfl  k) ?_
    refine own_st (fr' := (mkF m 72 #[oI p0, oI p1, oI p2, oI 7, oI z121_0, oI 300, oI 4, .val (.ref ar), .unset, .unset, .unset, .unset, .unset, .unset] [(.int (z121_0.toInt8.toInt32)), (.int 0), (.ref ar)])) (fun t k => XS.i2b X194.here hx rfl (hb hby at_71) rfl k) ?_
    have qb := c_i2b z121_0
    generalize hTB : (z121_0.toInt8.toInt32) = tb at qb ⊢
    have hnb : nar .byte tb = tb := own_narb qb.2.1 (by omega)
    refine own_bastore X194 hx hZ rfl VA (by decide) (by decide) (hb hby at_72) ?_
    intro T195 h195 X195 e195 W195 V195
    have N195 := Fr.snoc X195 N194 ge_ar
    refine own_st (fr' := (mkF m 74 #[oI p0, oI p1, oI p2, oI 7, oI z121_0, oI 300, oI 4, .val (.ref ar), .unset, .unset, .unset, .unset, .unset, .unset] [(.int 7)])) (fun t k => XS.iloadN X195.here hx rfl (hb hby at_73) rfl  k) ?_
    refine own_st (fr' := (mkF m 75 #[oI p0, oI p1, oI p2, oI 7, oI z121_0, oI 300, oI 4, .val (.ref ar), .unset, .unset, .unset, .unset, .unset, .unset] [(.int 4), (.int 7)])) (fun t k => XS.iconst X195.here hx rfl (hb hby at_74) k) ?_
    refine own_st (fr' := (mkF m 88 #[oI p0, oI p1, oI p2, oI 7, oI z121_0, oI 300, oI 4, .val (.ref ar), .unset, .unset, .unset, .unset, .unset, .unset] [])) (fun t k => XS.icmpYes X195.here hx rfl (pc0 := 75) (pc' := 88) rfl (hb hby at_75) rfl (own_flt (x := (7 : Int32)) (y := (4 : Int32)) (show ¬ 7 < 4 from by decide)).2.1 (by decide) (by decide) k) ?_
    refine own_st (fr' := (mkF m 89 #[oI p0, oI p1, oI p2, oI 7, oI z121_0, oI 300, oI 4, .val (.ref ar), .unset, .unset, .unset, .unset, .unset, .unset] [(.int 7)])) (fun t k => XS.iloadN X195.here hx rfl (hb hby at_88) rfl  k) ?_
    refine own_st (fr' := (mkF m 91 #[oI p0, oI p1, oI p2, oI 7, oI z121_0, oI 300, oI 4, .val (.ref ar), .unset, .unset, .unset, .unset, .unset, .unset] [(.int 6), (.int 7)])) (fun t k => XS.bipush X195.here hx rfl (hb hby at_89) k) ?_
    refine own_st (fr' := (mkF m 110 #[oI p0, oI p1, oI p2, oI 7, oI z121_0, oI 300, oI 4, .val (.ref ar), .unset, .unset, .unset, .unset, .unset, .unset] [])) (fun t k => XS.icmpYes X195.here hx rfl (pc0 := 91) (pc' := 110) rfl (hb hby at_91) rfl (own_flt (x := (7 : Int32)) (y := (6 : Int32)) (show ¬ 7 < 6 from by decide)).2.1 (by decide) (by decide) k) ?_
    refine own_st (fr' := (mkF m 112 #[oI p0, oI p1, oI p2, oI 7, oI z121_0, oI 300, oI 4, .val (.ref ar), .unset, .unset, .unset, .unset, .unset, .unset] [(.ref ar)])) (fun t k => XS.aload X195.here hx rfl (hb hby at_110) rfl rfl k) ?_
    refine own_st (fr' := (mkF m 113 #[oI p0, oI p1, oI p2, oI 7, oI z121_0, oI 300, oI 4, .val (.ref ar), .unset, .unset, .unset, .unset, .unset, .unset] [(.int 1), (.ref ar)])) (fun t k => XS.iconst X195.here hx rfl (hb hby at_112) k) ?_
    refine own_st (fr' := (mkF m 115 #[oI p0, oI p1, oI p2, oI 7, oI z121_0, oI 300, oI 4, .val (.ref ar), .unset, .unset, .unset, .unset, .unset, .unset] [(.int (-126 : Int32)), (.int 1), (.ref ar)])) (fun t k => XS.bipush X195.here hx rfl (hb hby at_113) k) ?_
    refine own_bastore X195 hx hZ e195 V195 (by decide) (by decide) (hb hby at_115) ?_
    intro T196 h196 X196 e196 W196 V196
    have N196 := Fr.snoc X196 N195 ge_ar
    refine own_st (fr' := (mkF m 118 #[oI p0, oI p1, oI p2, oI 7, oI z121_0, oI 300, oI 4, .val (.ref ar), .unset, .unset, .unset, .unset, .unset, .unset] [(.ref ar)])) (fun t k => XS.aload X196.here hx rfl (hb hby at_116) rfl rfl k) ?_
    refine own_st (fr' := (mkF m 119 #[oI p0, oI p1, oI p2, oI 7, oI z121_0, oI 300, oI 4, .val (.ref ar), .unset, .unset, .unset, .unset, .unset, .unset] [(.int 2), (.ref ar)])) (fun t k => XS.iconst X196.here hx rfl (hb hby at_118) k) ?_
    refine own_st (fr' := (mkF m 121 #[oI p0, oI p1, oI p2, oI 7, oI z121_0, oI 300, oI 4, .val (.ref ar), .unset, .unset, .unset, .unset, .unset, .unset] [(.int 300), (.int 2), (.ref ar)])) (fun t k => XS.iload X196.here hx rfl (hb hby at_119) rfl  k) ?_
    refine own_st (fr' := (mkF m 123 #[oI p0, oI p1, oI p2, oI 7, oI z121_0, oI 300, oI 4, .val (.ref ar), .unset, .unset, .unset, .unset, .unset, .unset] [(.int 8), (.int 300), (.int 2), (.ref ar)])) (fun t k => XS.bipush X196.here hx rfl (hb hby at_121) k) ?_
    refine own_st (fr' := (mkF m 124 #[oI p0, oI p1, oI p2, oI 7, oI z121_0, oI 300, oI 4, .val (.ref ar), .unset, .unset, .unset, .unset, .unset, .unset] [(.int 1), (.int 2), (.ref ar)])) (fun t k => XS.ishr X196.here hx rfl (hb hby at_123) rfl k) ?_
    refine own_st (fr' := (mkF m 125 #[oI p0, oI p1, oI p2, oI 7, oI z121_0, oI 300, oI 4, .val (.ref ar), .unset, .unset, .unset, .unset, .unset, .unset] [(.int 1), (.int 2), (.ref ar)])) (fun t k => XS.i2b X196.here hx rfl (hb hby at_124) rfl k) ?_
    refine own_bastore X196 hx hZ e196 V196 (by decide) (by decide) (hb hby at_125) ?_
    intro T197 h197 X197 e197 W197 V197
    have N197 := Fr.snoc X197 N196 ge_ar
    refine own_st (fr' := (mkF m 128 #[oI p0, oI p1, oI p2, oI 7, oI z121_0, oI 300, oI 4, .val (.ref ar), .unset, .unset, .unset, .unset, .unset, .unset] [(.ref ar)])) (fun t k => XS.aload X197.here hx rfl (hb hby at_126) rfl rfl k) ?_
    refine own_st (fr' := (mkF m 129 #[oI p0, oI p1, oI p2, oI 7, oI z121_0, oI 300, oI 4, .val (.ref ar), .unset, .unset, .unset, .unset, .unset, .unset] [(.int 3), (.ref ar)])) (fun t k => XS.iconst X197.here hx rfl (hb hby at_128) k) ?_
    refine own_st (fr' := (mkF m 131 #[oI p0, oI p1, oI p2, oI 7, oI z121_0, oI 300, oI 4, .val (.ref ar), .unset, .unset, .unset, .unset, .unset, .unset] [(.int 300), (.int 3), (.ref ar)])) (fun t k => XS.iload X197.here hx rfl (hb hby at_129) rfl  k) ?_
    refine own_st (fr' := (mkF m 132 #[oI p0, oI p1, oI p2, oI 7, oI z121_0, oI 300, oI 4, .val (.ref ar), .unset, .unset, .unset, .unset, .unset, .unset] [(.int 44), (.int 3), (.ref ar)])) (fun t k => XS.i2b X197.here hx rfl (hb hby at_131) rfl k) ?_
    refine own_bastore X197 hx hZ e197 V197 (by decide) (by decide) (hb hby at_132) ?_
    intro T198 h198 X198 e198 W198 V198
    have N198 := Fr.snoc X198 N197 ge_ar
    refine own_st (fr' := (mkF m 134 #[oI p0, oI p1, oI p2, oI 7, oI z121_0, oI 300, oI 4, .val (.ref ar), .unset, .unset, .unset, .unset, .unset, .unset] [(.int p2)])) (fun t k => XS.iloadN X198.here hx rfl (hb hby at_133) rfl  k) ?_
    refine own_st (fr' := (mkF m 135 #[oI p0, oI p1, oI p2, oI 7, oI z121_0, oI 300, oI 4, .val (.ref ar), .unset, .unset, .unset, .unset, .unset, .unset] [(.int (p2.toInt8.toInt32))])) (fun t k => XS.i2b X198.here hx rfl (hb hby at_134) rfl k) ?_
    refine own_st (fr' := (mkF m 137 #[oI p0, oI p1, oI p2, oI 7, oI z121_0, oI 300, oI 4, .val (.ref ar), .val (.int (p2.toInt8.toInt32)), .unset, .unset, .unset, .unset, .unset] [])) (fun t k => XS.istore X198.here hx rfl (hb hby at_135) rfl  (l' := #[oI p0, oI p1, oI p2, oI 7, oI z121_0, oI 300, oI 4, .val (.ref ar), .val (.int (p2.toInt8.toInt32)), .unset, .unset, .unset, .unset, .unset]) rfl k) ?_
    have q1 := c_i2b p2
    generalize hFI : p2.toInt8.toInt32 = fi at q1 ⊢
    have hnf : nar .byte fi = fi := own_narb q1.2.1 (by omega)
    refine own_st (fr' := (mkF m 138 #[oI p0, oI p1, oI p2, oI 7, oI z121_0, oI 300, oI 4, .val (.ref ar), oI fi, .unset, .unset, .unset, .unset, .unset] [(.int p2)])) (fun t k => XS.iloadN X198.here hx rfl (hb hby at_137) rfl  k) ?_
    refine own_st (fr' := (mkF m 140 #[oI p0, oI p1, oI p2, oI 7, oI z121_0, oI 300, oI 4, .val (.ref ar), oI fi, .unset, .unset, .unset, .unset, .unset] [(.int 8), (.int p2)])) (fun t k => XS.bipush X198.here hx rfl (hb hby at_138) k) ?_
    refine own_st (fr' := (mkF m 141 #[oI p0, oI p1, oI p2, oI 7, oI z121_0, oI 300, oI 4, .val (.ref ar), oI fi, .unset, .unset, .unset, .unset, .unset] [(.int (p2 >>> ((8 : Int32) &&& 31)))])) (fun t k => XS.ishr X198.here hx rfl (hb hby at_140) rfl k) ?_
    refine own_st (fr' := (mkF m 142 #[oI p0, oI p1, oI p2, oI 7, oI z121_0, oI 300, oI 4, .val (.ref ar), oI fi, .unset, .unset, .unset, .unset, .unset] [(.int ((p2 >>> ((8 : Int32) &&& 31)).toInt8.toInt32))])) (fun t k => XS.i2b X198.here hx rfl (hb hby at_141) rfl k) ?_
    refine own_st (fr' := (mkF m 144 #[oI p0, oI p1, oI p2, oI 7, oI z121_0, oI 300, oI 4, .val (.ref ar), oI fi, .val (.int ((p2 >>> ((8 : Int32) &&& 31)).toInt8.toInt32)), .unset, .unset, .unset, .unset] [])) (fun t k => XS.istore X198.here hx rfl (hb hby at_142) rfl  (l' := #[oI p0, oI p1, oI p2, oI 7, oI z121_0, oI 300, oI 4, .val (.ref ar), oI fi, .val (.int ((p2 >>> ((8 : Int32) &&& 31)).toInt8.toInt32)), .unset, .unset, .unset, .unset]) rfl k) ?_
    have q2 := c_i2b (p2 >>> ((8 : Int32) &&& 31))
    generalize hSE : (p2 >>> ((8 : Int32) &&& 31)).toInt8.toInt32 = se at q2 ⊢
    have hns : nar .byte se = se := own_narb q2.2.1 (by omega)
    refine own_st (fr' := (mkF m 146 #[oI p0, oI p1, oI p2, oI 7, oI z121_0, oI 300, oI 4, .val (.ref ar), oI fi, oI se, .unset, .unset, .unset, .unset] [(.int 300)])) (fun t k => XS.iload X198.here hx rfl (hb hby at_144) rfl  k) ?_
    refine own_st (fr' := (mkF m 147 #[oI p0, oI p1, oI p2, oI 7, oI z121_0, oI 300, oI 4, .val (.ref ar), oI fi, oI se, .unset, .unset, .unset, .unset] [(.int 1), (.int 300)])) (fun t k => XS.iconst X198.here hx rfl (hb hby at_146) k) ?_
    refine own_st (fr' := (mkF m 150 #[oI p0, oI p1, oI p2, oI 7, oI z121_0, oI 300, oI 4, .val (.ref ar), oI fi, oI se, .unset, .unset, .unset, .unset] [])) (fun t k => XS.icmpNo X198.here hx rfl (hb hby at_147) rfl (own_flt (x := (300 : Int32)) (y := (1 : Int32)) (show ¬ 300 < 1 from by decide)).1 k) ?_
    refine own_st (fr' := (mkF m 152 #[oI p0, oI p1, oI p2, oI 7, oI z121_0, oI 300, oI 4, .val (.ref ar), oI fi, oI se, .unset, .unset, .unset, .unset] [(.ref ar)])) (fun t k => XS.aload X198.here hx rfl (hb hby at_150) rfl rfl k) ?_
    refine own_st (fr' := (mkF m 154 #[oI p0, oI p1, oI p2, oI 7, oI z121_0, oI 300, oI 4, .val (.ref ar), oI fi, oI se, .unset, .unset, .unset, .unset] [(.int 4), (.ref ar)])) (fun t k => XS.iload X198.here hx rfl (hb hby at_152) rfl  k) ?_
    refine own_st (fr' := (mkF m 156 #[oI p0, oI p1, oI p2, oI 7, oI z121_0, oI 300, oI 4, .val (.ref ar), oI fi, oI se, .unset, .unset, .unset, .unset] [(.int fi), (.int 4), (.ref ar)])) (fun t k => XS.iload X198.here hx rfl (hb hby at_154) rfl  k) ?_
    refine own_bastore X198 hx hZ e198 V198 (by decide) (by decide) (hb hby at_156) ?_
    intro T199 h199 X199 e199 W199 V199
    have N199 := Fr.snoc X199 N198 ge_ar
    refine own_st (fr' := (mkF m 159 #[oI p0, oI p1, oI p2, oI 7, oI z121_0, oI 300, oI 4, .val (.ref ar), oI fi, oI se, .unset, .unset, .unset, .unset] [(.int 300)])) (fun t k => XS.iload X199.here hx rfl (hb hby at_157) rfl  k) ?_
    refine own_st (fr' := (mkF m 160 #[oI p0, oI p1, oI p2, oI 7, oI z121_0, oI 300, oI 4, .val (.ref ar), oI fi, oI se, .unset, .unset, .unset, .unset] [(.int 2), (.int 300)])) (fun t k => XS.iconst X199.here hx rfl (hb hby at_159) k) ?_
    refine own_st (fr' := (mkF m 163 #[oI p0, oI p1, oI p2, oI 7, oI z121_0, oI 300, oI 4, .val (.ref ar), oI fi, oI se, .unset, .unset, .unset, .unset] [])) (fun t k => XS.icmpNo X199.here hx rfl (hb hby at_160) rfl (own_flt (x := (300 : Int32)) (y := (2 : Int32)) (show ¬ 300 < 2 from by decide)).1 k) ?_
    refine own_st (fr' := (mkF m 165 #[oI p0, oI p1, oI p2, oI 7, oI z121_0, oI 300, oI 4, .val (.ref ar), oI fi, oI se, .unset, .unset, .unset, .unset] [(.ref ar)])) (fun t k => XS.aload X199.here hx rfl (hb hby at_163) rfl rfl k) ?_
    refine own_st (fr' := (mkF m 167 #[oI p0, oI p1, oI p2, oI 7, oI z121_0, oI 300, oI 4, .val (.ref ar), oI fi, oI se, .unset, .unset, .unset, .unset] [(.int 4), (.ref ar)])) (fun t k => XS.iload X199.here hx rfl (hb hby at_165) rfl  k) ?_
    refine own_st (fr' := (mkF m 169 #[oI p0, oI p1, oI p2, oI 7, oI z121_0, oI 300, oI 4, .val (.ref ar), oI fi, oI se, .unset, .unset, .unset, .unset] [(.int 300), (.int 4), (.ref ar)])) (fun t k => XS.iload X199.here hx rfl (hb hby at_167) rfl  k) ?_
    refine own_st (fr' := (mkF m 170 #[oI p0, oI p1, oI p2, oI 7, oI z121_0, oI 300, oI 4, .val (.ref ar), oI fi, oI se, .unset, .unset, .unset, .unset] [(.int 304), (.ref ar)])) (fun t k => XS.iadd X199.here hx rfl (hb hby at_169) rfl k) ?_
    refine own_st (fr' := (mkF m 171 #[oI p0, oI p1, oI p2, oI 7, oI z121_0, oI 300, oI 4, .val (.ref ar), oI fi, oI se, .unset, .unset, .unset, .unset] [(.int 1), (.int 304), (.ref ar)])) (fun t k => XS.iconst X199.here hx rfl (hb hby at_170) k) ?_
    refine own_st (fr' := (mkF m 172 #[oI p0, oI p1, oI p2, oI 7, oI z121_0, oI 300, oI 4, .val (.ref ar), oI fi, oI se, .unset, .unset, .unset, .unset] [(.int 303), (.ref ar)])) (fun t k => XS.isub X199.here hx rfl (hb hby at_171) rfl k) ?_
    refine own_st (fr' := (mkF m 174 #[oI p0, oI p1, oI p2, oI 7, oI z121_0, oI 300, oI 4, .val (.ref ar), oI fi, oI se, .unset, .unset, .unset, .unset] [(.int se), (.int 303), (.ref ar)])) (fun t k => XS.iload X199.here hx rfl (hb hby at_172) rfl  k) ?_
    refine own_bastore X199 hx hZ e199 V199 (by decide) (by decide) (hb hby at_174) ?_
    intro T200 h200 X200 e200 W200 V200
    have N200 := Fr.snoc X200 N199 ge_ar
    obtain ⟨ff, VF, hv⟩ : ∃ ff : Nat → Value, own_A Z h200 ar .byte 304 ff ∧ (ff 0 = .int tb ∧ ff 1 = .int (-126 : Int32) ∧ ff 2 = .int (1 : Int32) ∧ ff 3 = .int (44 : Int32) ∧ ff 4 = .int fi ∧ ff 303 = .int se ∧ ff 5 = .int 0) := ⟨_, V200, by show Value.int (nar .byte tb) = _; rw [hnb], rfl, rfl, rfl, by show Value.int (nar .byte fi) = _; rw [hnf], by show Value.int (nar .byte se) = _; rw [hns], rfl⟩
    obtain ⟨hv0, hv1, hv2, hv3, hv4, hv303, hvz⟩ := hv
    have hbk : tb &&& 255 = z121_0 := own_back z121_0 tb hz121.1 hz121.2.1 (by omega)
    refine own_st (fr' := (mkF m 177 #[oI p0, oI p1, oI p2, oI 7, oI z121_0, oI 300, oI 4, .val (.ref ar), oI fi, oI se, .unset, .unset, .unset, .unset] [(.ref ar)])) (fun t k => XS.aload X200.here hx rfl (hb hby at_175) rfl rfl k) ?_
    refine own_callS X200 hx hZ (y := (⟨"com/example/linkvouch/linkvouch/apk/Der", "parse", "([B)Lcom/example/linkvouch/linkvouch/apk/Der;"⟩ : MethodName)) hown (hw _ (List.mem_of_getElem? (i := 8) rfl)) (hw _ (List.mem_of_getElem? (i := 9) rfl)) (hw _ (List.mem_of_getElem? (i := 10) rfl)) (hw _ (List.mem_of_getElem? (i := 11) rfl)) (by decide) (argsL := [(.ref ar)]) (rest := []) (W := 0) (rm_parse7 l Z a0 hw [] ar tb ff h200 n0 (Nat.le_trans (Nat.le_trans (Nat.le_trans (Nat.le_trans (Nat.le_trans (Nat.le_trans (Nat.le_trans Z0 K194.1) (Nat.le_of_eq (Wr.size W195).symm)) (Nat.le_of_eq (Wr.size W196).symm)) (Nat.le_of_eq (Wr.size W197).symm)) (Nat.le_of_eq (Wr.size W198).symm)) (Nat.le_of_eq (Wr.size W199).symm)) (Nat.le_of_eq (Wr.size W200).symm)) VF hv0 hv1 hv2 hv3 (by rw [hbk]; exact hz121.2.2)) e200 (by rw [hml]; rfl) (lenOf pd_7 rfl) rfl (Nat.le_of_eq rfl) (hb hby at_177) (by decide) (by decide) (by decide) (by decide) ?_
    intro v201 T201 L201 X201 hQ201
    obtain ⟨⟨d, rfl, hd0, Ed, Fd0, Fd1, Fd2, Fd3, Fd4⟩, Nq201, K201⟩ := hQ201
    rw [hbk] at Fd1
    have N201 := Fr.app N200 Nq201
    refine own_st (fr' := (mkF m 182 #[oI p0, oI p1, oI p2, oI 7, oI z121_0, oI 300, oI 4, .val (.ref ar), oI fi, oI se, .val (.ref d), .unset, .unset, .unset] [])) (fun t k => XS.astore X201.here hx rfl (hb hby at_180) rfl rfl (l' := #[oI p0, oI p1, oI p2, oI 7, oI z121_0, oI 300, oI 4, .val (.ref ar), oI fi, oI se, .val (.ref d), .unset, .unset, .unset]) rfl k) ?_
    refine own_st (fr' := (mkF m 184 #[oI p0, oI p1, oI p2, oI 7, oI z121_0, oI 300, oI 4, .val (.ref ar), oI fi, oI se, .val (.ref d), .unset, .unset, .unset] [(.ref d)])) (fun t k => XS.aload X201.here hx rfl (hb hby at_182) rfl rfl k) ?_
    refine own_callV X201 hx hZ (y := (⟨"com/example/linkvouch/linkvouch/apk/Der", "content", "()[B"⟩ : MethodName)) (z := (⟨"com/example/linkvouch/linkvouch/apk/Der", "content", "()[B"⟩ : MethodName)) hown (hw _ (List.mem_of_getElem? (i := 33) rfl)) (hw _ (List.mem_of_getElem? (i := 34) rfl)) (notFace_of_selects (args := #[]) (mvT hZ (hw _ (List.mem_of_getElem? (i := 36) rfl)))) (hw _ (List.mem_of_getElem? (i := 36) rfl)) (hw _ (List.mem_of_getElem? (i := 35) rfl)) (hw _ (List.mem_of_getElem? (i := 10) rfl)) (hw _ (List.mem_of_getElem? (i := 37) rfl)) (by decide) (a := d) (argsL := []) (rest := []) (W := 0) (rm_cont7 l Z a0 hw [] d ar ff T201.heap n0 (Nat.le_trans (Nat.le_trans (Nat.le_trans (Nat.le_trans (Nat.le_trans (Nat.le_trans (Nat.le_trans (Nat.le_trans Z0 K194.1) (Nat.le_of_eq (Wr.size W195).symm)) (Nat.le_of_eq (Wr.size W196).symm)) (Nat.le_of_eq (Wr.size W197).symm)) (Nat.le_of_eq (Wr.size W198).symm)) (Nat.le_of_eq (Wr.size W199).symm)) (Nat.le_of_eq (Wr.size W200).symm)) K201.1) Fd0 (VF.keep K201 nin0) ((Exa.wr W200 (Exa.wr W199 (Exa.wr W198 (Exa.wr W197 (Exa.wr W196 (Exa.wr W195 EA)))))).keep K201) Fd4 Fd3) rfl Ed (by rw [hml]; rfl) (lenOf pd_8 rfl) rfl (Nat.le_of_eq rfl) (hb hby at_184) (by decide) (by decide) (by decide) (by decide) ?_
    intro v202 T202 L202 X202 hQ202
    obtain ⟨⟨co, gc, rfl, hco, VC, hgc⟩, Nq202, K202⟩ := hQ202
    have N202 := Fr.app N201 Nq202
    refine own_st (fr' := (mkF m 189 #[oI p0, oI p1, oI p2, oI 7, oI z121_0, oI 300, oI 4, .val (.ref ar), oI fi, oI se, .val (.ref d), .val (.ref co), .unset, .unset] [])) (fun t k => XS.astore X202.here hx rfl (hb hby at_187) rfl rfl (l' := #[oI p0, oI p1, oI p2, oI 7, oI z121_0, oI 300, oI 4, .val (.ref ar), oI fi, oI se, .val (.ref d), .val (.ref co), .unset, .unset]) rfl k) ?_
    refine own_st (fr' := (mkF m 191 #[oI p0, oI p1, oI p2, oI 7, oI z121_0, oI 300, oI 4, .val (.ref ar), oI fi, oI se, .val (.ref d), .val (.ref co), .unset, .unset] [(.ref d)])) (fun t k => XS.aload X202.here hx rfl (hb hby at_189) rfl rfl k) ?_
    refine own_callV X202 hx hZ (y := (⟨"com/example/linkvouch/linkvouch/apk/Der", "encoded", "()[B"⟩ : MethodName)) (z := (⟨"com/example/linkvouch/linkvouch/apk/Der", "encoded", "()[B"⟩ : MethodName)) hown (hw _ (List.mem_of_getElem? (i := 56) rfl)) (hw _ (List.mem_of_getElem? (i := 57) rfl)) (notFace_of_selects (args := #[]) (mvT hZ (hw _ (List.mem_of_getElem? (i := 59) rfl)))) (hw _ (List.mem_of_getElem? (i := 59) rfl)) (hw _ (List.mem_of_getElem? (i := 58) rfl)) (hw _ (List.mem_of_getElem? (i := 10) rfl)) (hw _ (List.mem_of_getElem? (i := 60) rfl)) (by decide) (a := d) (argsL := []) (rest := []) (W := 0) (rm_enc7 l Z a0 hw [] d ar ff T202.heap n0 (Nat.le_trans (Nat.le_trans (Nat.le_trans (Nat.le_trans (Nat.le_trans (Nat.le_trans (Nat.le_trans (Nat.le_trans (Nat.le_trans Z0 K194.1) (Nat.le_of_eq (Wr.size W195).symm)) (Nat.le_of_eq (Wr.size W196).symm)) (Nat.le_of_eq (Wr.size W197).symm)) (Nat.le_of_eq (Wr.size W198).symm)) (Nat.le_of_eq (Wr.size W199).symm)) (Nat.le_of_eq (Wr.size W200).symm)) K201.1) K202.1) (Fd0.keep K202 nin0) ((VF.keep K201 nin0).keep K202 nin0) (((Exa.wr W200 (Exa.wr W199 (Exa.wr W198 (Exa.wr W197 (Exa.wr W196 (Exa.wr W195 EA)))))).keep K201).keep K202) (Fd4.keep K202 nin0) (Fd2.keep K202 nin0)) rfl (Ed.keep K202) (by rw [hml]; rfl) (lenOf pd_8 rfl) rfl (Nat.le_of_eq rfl) (hb hby at_191) (by decide) (by decide) (by decide) (by decide) ?_
    intro v203 T203 L203 X203 hQ203
    obtain ⟨⟨ec, rfl, hec, VE⟩, Nq203, K203⟩ := hQ203
    have N203 := Fr.app N202 Nq203
    refine own_st (fr' := (mkF m 196 #[oI p0, oI p1, oI p2, oI 7, oI z121_0, oI 300, oI 4, .val (.ref ar), oI fi, oI se, .val (.ref d), .val (.ref co), .val (.ref ec), .unset] [])) (fun t k => XS.astore X203.here hx rfl (hb hby at_194) rfl rfl (l' := #[oI p0, oI p1, oI p2, oI 7, oI z121_0, oI 300, oI 4, .val (.ref ar), oI fi, oI se, .val (.ref d), .val (.ref co), .val (.ref ec), .unset]) rfl k) ?_
    refine own_st (fr' := (mkF m 198 #[oI p0, oI p1, oI p2, oI 7, oI z121_0, oI 300, oI 4, .val (.ref ar), oI fi, oI se, .val (.ref d), .val (.ref co), .val (.ref ec), .unset] [(.ref d)])) (fun t k => XS.aload X203.here hx rfl (hb hby at_196) rfl rfl k) ?_
    refine own_callV X203 hx hZ (y := (⟨"com/example/linkvouch/linkvouch/apk/Der", "tag", "()I"⟩ : MethodName)) (z := (⟨"com/example/linkvouch/linkvouch/apk/Der", "tag", "()I"⟩ : MethodName)) hown (hw _ (List.mem_of_getElem? (i := 70) rfl)) (hw _ (List.mem_of_getElem? (i := 71) rfl)) (notFace_of_selects (args := #[]) (mvT hZ (hw _ (List.mem_of_getElem? (i := 73) rfl)))) (hw _ (List.mem_of_getElem? (i := 73) rfl)) (hw _ (List.mem_of_getElem? (i := 72) rfl)) (hw _ (List.mem_of_getElem? (i := 10) rfl)) (hw _ (List.mem_of_getElem? (i := 74) rfl)) (by decide) (a := d) (argsL := []) (rest := []) (W := 0) (rm_tag l Z a0 hw [] d z121_0 T203.heap n0 (Nat.le_trans (Nat.le_trans (Nat.le_trans (Nat.le_trans (Nat.le_trans (Nat.le_trans (Nat.le_trans (Nat.le_trans (Nat.le_trans (Nat.le_trans Z0 K194.1) (Nat.le_of_eq (Wr.size W195).symm)) (Nat.le_of_eq (Wr.size W196).symm)) (Nat.le_of_eq (Wr.size W197).symm)) (Nat.le_of_eq (Wr.size W198).symm)) (Nat.le_of_eq (Wr.size W199).symm)) (Nat.le_of_eq (Wr.size W200).symm)) K201.1) K202.1) K203.1) ((Fd1.keep K202 nin0).keep K203 nin0)) rfl ((Ed.keep K202).keep K203) (by rw [hml]; rfl) (lenOf pd_9 rfl) rfl (Nat.le_of_eq rfl) (hb hby at_198) (by decide) (by decide) (by decide) (by decide) ?_
    intro v204 T204 L204 X204 hQ204
    obtain ⟨rfl, Nq204, eq204⟩ := hQ204
    have N204 := Fr.app N203 Nq204
    refine own_st (fr' := (mkF m 203 #[oI p0, oI p1, oI p2, oI 7, oI z121_0, oI 300, oI 4, .val (.ref ar), oI fi, oI se, .val (.ref d), .val (.ref co), .val (.ref ec), .unset] [(.int z121_0), (.int z121_0)])) (fun t k => XS.iload X204.here hx rfl (hb hby at_201) rfl  k) ?_
    refine own_st (fr' := (mkF m 206 #[oI p0, oI p1, oI p2, oI 7, oI z121_0, oI 300, oI 4, .val (.ref ar), oI fi, oI se, .val (.ref d), .val (.ref co), .val (.ref ec), .unset] [])) (fun t k => XS.icmpNo X204.here hx rfl (hb hby at_203) rfl (own_teq (x := z121_0) (y := z121_0) (show z121_0.toInt = z121_0.toInt from rfl)).2 k) ?_
    refine own_st (fr' := (mkF m 207 #[oI p0, oI p1, oI p2, oI 7, oI z121_0, oI 300, oI 4, .val (.ref ar), oI fi, oI se, .val (.ref d), .val (.ref co), .val (.ref ec), .unset] [(.int 1)])) (fun t k => XS.iconst X204.here hx rfl (hb hby at_206) k) ?_
    refine own_st (fr' := (mkF m 211 #[oI p0, oI p1, oI p2, oI 7, oI z121_0, oI 300, oI 4, .val (.ref ar), oI fi, oI se, .val (.ref d), .val (.ref co), .val (.ref ec), .unset] [(.int 1)])) (fun t k => XS.goto X204.here hx rfl (pc0 := 207) (pc' := 211) rfl (hb hby at_207) (by decide) (by decide) k) ?_
    refine own_st (fr' := (mkF m 213 #[oI p0, oI p1, oI p2, oI 7, oI z121_0, oI 300, oI 4, .val (.ref ar), oI fi, oI se, .val (.ref d), .val (.ref co), .val (.ref ec), oI 1] [])) (fun t k => XS.istore X204.here hx rfl (hb hby at_211) rfl  (l' := #[oI p0, oI p1, oI p2, oI 7, oI z121_0, oI 300, oI 4, .val (.ref ar), oI fi, oI se, .val (.ref d), .val (.ref co), .val (.ref ec), oI 1]) rfl k) ?_
    refine own_st (fr' := (mkF m 215 #[oI p0, oI p1, oI p2, oI 7, oI z121_0, oI 300, oI 4, .val (.ref ar), oI fi, oI se, .val (.ref d), .val (.ref co), .val (.ref ec), oI 1] [(.int 1)])) (fun t k => XS.iload X204.here hx rfl (hb hby at_213) rfl  k) ?_
    refine own_st (fr' := (mkF m 218 #[oI p0, oI p1, oI p2, oI 7, oI z121_0, oI 300, oI 4, .val (.ref ar), oI fi, oI se, .val (.ref d), .val (.ref co), .val (.ref ec), oI 1] [])) (fun t k => XS.ifNo X204.here hx rfl (hb hby at_215) rfl ((if0 _ _).trans (own_feq (x := (1 : Int32)) (y := (0 : Int32)) (show ¬ 1 = 0 from by decide)).1) k) ?_
    refine own_st (fr' := (mkF m 220 #[oI p0, oI p1, oI p2, oI 7, oI z121_0, oI 300, oI 4, .val (.ref ar), oI fi, oI se, .val (.ref d), .val (.ref co), .val (.ref ec), oI 1] [(.ref co)])) (fun t k => XS.aload X204.here hx rfl (hb hby at_218) rfl rfl k) ?_
    refine own_alen X204 hx hZ eq204 (VC.keep K203 nin0) (hb hby at_220) ?_
    refine own_st (fr' := (mkF m 223 #[oI p0, oI p1, oI p2, oI 7, oI z121_0, oI 300, oI 4, .val (.ref ar), oI fi, oI se, .val (.ref d), .val (.ref co), .val (.ref ec), oI 1] [(.int 300), (.int 300)])) (fun t k => XS.iload X204.here hx rfl (hb hby at_221) rfl  k) ?_
    refine own_st (fr' := (mkF m 226 #[oI p0, oI p1, oI p2, oI 7, oI z121_0, oI 300, oI 4, .val (.ref ar), oI fi, oI se, .val (.ref d), .val (.ref co), .val (.ref ec), oI 1] [])) (fun t k => XS.icmpNo X204.here hx rfl (hb hby at_223) rfl (own_teq (x := (300 : Int32)) (y := (300 : Int32)) (show 300 = 300 from by decide)).2 k) ?_
    refine own_st (fr' := (mkF m 227 #[oI p0, oI p1, oI p2, oI 7, oI z121_0, oI 300, oI 4, .val (.ref ar), oI fi, oI se, .val (.ref d), .val (.ref co), .val (.ref ec), oI 1] [(.int 1)])) (fun t k => XS.iconst X204.here hx rfl (hb hby at_226) k) ?_
    refine own_st (fr' := (mkF m 231 #[oI p0, oI p1, oI p2, oI 7, oI z121_0, oI 300, oI 4, .val (.ref ar), oI fi, oI se, .val (.ref d), .val (.ref co), .val (.ref ec), oI 1] [(.int 1)])) (fun t k => XS.goto X204.here hx rfl (pc0 := 227) (pc' := 231) rfl (hb hby at_227) (by decide) (by decide) k) ?_
    refine own_st (fr' := (mkF m 233 #[oI p0, oI p1, oI p2, oI 7, oI z121_0, oI 300, oI 4, .val (.ref ar), oI fi, oI se, .val (.ref d), .val (.ref co), .val (.ref ec), oI 1] [])) (fun t k => XS.istore X204.here hx rfl (hb hby at_231) rfl  (l' := #[oI p0, oI p1, oI p2, oI 7, oI z121_0, oI 300, oI 4, .val (.ref ar), oI fi, oI se, .val (.ref d), .val (.ref co), .val (.ref ec), oI 1]) rfl k) ?_
    refine own_st (fr' := (mkF m 235 #[oI p0, oI p1, oI p2, oI 7, oI z121_0, oI 300, oI 4, .val (.ref ar), oI fi, oI se, .val (.ref d), .val (.ref co), .val (.ref ec), oI 1] [(.int 1)])) (fun t k => XS.iload X204.here hx rfl (hb hby at_233) rfl  k) ?_
    refine own_st (fr' := (mkF m 238 #[oI p0, oI p1, oI p2, oI 7, oI z121_0, oI 300, oI 4, .val (.ref ar), oI fi, oI se, .val (.ref d), .val (.ref co), .val (.ref ec), oI 1] [])) (fun t k => XS.ifNo X204.here hx rfl (hb hby at_235) rfl ((if0 _ _).trans (own_feq (x := (1 : Int32)) (y := (0 : Int32)) (show ¬ 1 = 0 from by decide)).1) k) ?_
    refine own_st (fr' := (mkF m 240 #[oI p0, oI p1, oI p2, oI 7, oI z121_0, oI 300, oI 4, .val (.ref ar), oI fi, oI se, .val (.ref d), .val (.ref co), .val (.ref ec), oI 1] [(.ref ec)])) (fun t k => XS.aload X204.here hx rfl (hb hby at_238) rfl rfl k) ?_
    refine own_alen X204 hx hZ eq204 VE (hb hby at_240) ?_
    refine own_st (fr' := (mkF m 243 #[oI p0, oI p1, oI p2, oI 7, oI z121_0, oI 300, oI 4, .val (.ref ar), oI fi, oI se, .val (.ref d), .val (.ref co), .val (.ref ec), oI 1] [(.ref ar), (.int 304)])) (fun t k => XS.aload X204.here hx rfl (hb hby at_241) rfl rfl k) ?_
    refine own_alen X204 hx hZ eq204 (((VF.keep K201 nin0).keep K202 nin0).keep K203 nin0) (hb hby at_243) ?_
    refine own_st (fr' := (mkF m 247 #[oI p0, oI p1, oI p2, oI 7, oI z121_0, oI 300, oI 4, .val (.ref ar), oI fi, oI se, .val (.ref d), .val (.ref co), .val (.ref ec), oI 1] [])) (fun t k => XS.icmpNo X204.here hx rfl (hb hby at_244) rfl (own_teq (x := (304 : Int32)) (y := (304 : Int32)) (show 304 = 304 from by decide)).2 k) ?_
    refine own_st (fr' := (mkF m 248 #[oI p0, oI p1, oI p2, oI 7, oI z121_0, oI 300, oI 4, .val (.ref ar), oI fi, oI se, .val (.ref d), .val (.ref co), .val (.ref ec), oI 1] [(.int 1)])) (fun t k => XS.iconst X204.here hx rfl (hb hby at_247) k) ?_
    refine own_st (fr' := (mkF m 252 #[oI p0, oI p1, oI p2, oI 7, oI z121_0, oI 300, oI 4, .val (.ref ar), oI fi, oI se, .val (.ref d), .val (.ref co), .val (.ref ec), oI 1] [(.int 1)])) (fun t k => XS.goto X204.here hx rfl (pc0 := 248) (pc' := 252) rfl (hb hby at_248) (by decide) (by decide) k) ?_
    refine own_st (fr' := (mkF m 254 #[oI p0, oI p1, oI p2, oI 7, oI z121_0, oI 300, oI 4, .val (.ref ar), oI fi, oI se, .val (.ref d), .val (.ref co), .val (.ref ec), oI 1] [])) (fun t k => XS.istore X204.here hx rfl (hb hby at_252) rfl  (l' := #[oI p0, oI p1, oI p2, oI 7, oI z121_0, oI 300, oI 4, .val (.ref ar), oI fi, oI se, .val (.ref d), .val (.ref co), .val (.ref ec), oI 1]) rfl k) ?_
    refine own_st (fr' := (mkF m 256 #[oI p0, oI p1, oI p2, oI 7, oI z121_0, oI 300, oI 4, .val (.ref ar), oI fi, oI se, .val (.ref d), .val (.ref co), .val (.ref ec), oI 1] [(.int 1)])) (fun t k => XS.iload X204.here hx rfl (hb hby at_254) rfl  k) ?_
    refine own_st (fr' := (mkF m 259 #[oI p0, oI p1, oI p2, oI 7, oI z121_0, oI 300, oI 4, .val (.ref ar), oI fi, oI se, .val (.ref d), .val (.ref co), .val (.ref ec), oI 1] [])) (fun t k => XS.ifNo X204.here hx rfl (hb hby at_256) rfl ((if0 _ _).trans (own_feq (x := (1 : Int32)) (y := (0 : Int32)) (show ¬ 1 = 0 from by decide)).1) k) ?_
    refine own_st (fr' := (mkF m 261 #[oI p0, oI p1, oI p2, oI 7, oI z121_0, oI 300, oI 4, .val (.ref ar), oI fi, oI se, .val (.ref d), .val (.ref co), .val (.ref ec), oI 1] [(.ref ec)])) (fun t k => XS.aload X204.here hx rfl (hb hby at_259) rfl rfl k) ?_
    refine own_st (fr' := (mkF m 262 #[oI p0, oI p1, oI p2, oI 7, oI z121_0, oI 300, oI 4, .val (.ref ar), oI fi, oI se, .val (.ref d), .val (.ref co), .val (.ref ec), oI 1] [(.int 0), (.ref ec)])) (fun t k => XS.iconst X204.here hx rfl (hb hby at_261) k) ?_
    refine own_baload (j := (0 : Int32)) X204 hx hZ eq204 VE (by decide) (by decide) (v := (.int tb)) (hv0) (hb hby at_262) ?_
    refine own_st (fr' := (mkF m 265 #[oI p0, oI p1, oI p2, oI 7, oI z121_0, oI 300, oI 4, .val (.ref ar), oI fi, oI se, .val (.ref d), .val (.ref co), .val (.ref ec), oI 1] [(.ref ar), (.int tb)])) (fun t k => XS.aload X204.here hx rfl (hb hby at_263) rfl rfl k) ?_
    refine own_st (fr' := (mkF m 266 #[oI p0, oI p1, oI p2, oI 7, oI z121_0, oI 300, oI 4, .val (.ref ar), oI fi, oI se, .val (.ref d), .val (.ref co), .val (.ref ec), oI 1] [(.int 0), (.ref ar), (.int tb)])) (fun t k => XS.iconst X204.here hx rfl (hb hby at_265) k) ?_
    refine own_baload (j := (0 : Int32)) X204 hx hZ eq204 (((VF.keep K201 nin0).keep K202 nin0).keep K203 nin0) (by decide) (by decide) (v := (.int tb)) (hv0) (hb hby at_266) ?_
    refine own_st (fr' := (mkF m 270 #[oI p0, oI p1, oI p2, oI 7, oI z121_0, oI 300, oI 4, .val (.ref ar), oI fi, oI se, .val (.ref d), .val (.ref co), .val (.ref ec), oI 1] [])) (fun t k => XS.icmpNo X204.here hx rfl (hb hby at_267) rfl (own_teq (x := tb) (y := tb) (show tb.toInt = tb.toInt from rfl)).2 k) ?_
    refine own_st (fr' := (mkF m 272 #[oI p0, oI p1, oI p2, oI 7, oI z121_0, oI 300, oI 4, .val (.ref ar), oI fi, oI se, .val (.ref d), .val (.ref co), .val (.ref ec), oI 1] [(.ref ec)])) (fun t k => XS.aload X204.here hx rfl (hb hby at_270) rfl rfl k) ?_
    refine own_st (fr' := (mkF m 273 #[oI p0, oI p1, oI p2, oI 7, oI z121_0, oI 300, oI 4, .val (.ref ar), oI fi, oI se, .val (.ref d), .val (.ref co), .val (.ref ec), oI 1] [(.int 1), (.ref ec)])) (fun t k => XS.iconst X204.here hx rfl (hb hby at_272) k) ?_
    refine own_baload (j := (1 : Int32)) X204 hx hZ eq204 VE (by decide) (by decide) (v := (.int (-126 : Int32))) (hv1) (hb hby at_273) ?_
    refine own_st (fr' := (mkF m 276 #[oI p0, oI p1, oI p2, oI 7, oI z121_0, oI 300, oI 4, .val (.ref ar), oI fi, oI se, .val (.ref d), .val (.ref co), .val (.ref ec), oI 1] [(.ref ar), (.int (-126 : Int32))])) (fun t k => XS.aload X204.here hx rfl (hb hby at_274) rfl rfl k) ?_
    refine own_st (fr' := (mkF m 277 #[oI p0, oI p1, oI p2, oI 7, oI z121_0, oI 300, oI 4, .val (.ref ar), oI fi, oI se, .val (.ref d), .val (.ref co), .val (.ref ec), oI 1] [(.int 1), (.ref ar), (.int (-126 : Int32))])) (fun t k => XS.iconst X204.here hx rfl (hb hby at_276) k) ?_
    refine own_baload (j := (1 : Int32)) X204 hx hZ eq204 (((VF.keep K201 nin0).keep K202 nin0).keep K203 nin0) (by decide) (by decide) (v := (.int (-126 : Int32))) (hv1) (hb hby at_277) ?_
    refine own_st (fr' := (mkF m 281 #[oI p0, oI p1, oI p2, oI 7, oI z121_0, oI 300, oI 4, .val (.ref ar), oI fi, oI se, .val (.ref d), .val (.ref co), .val (.ref ec), oI 1] [])) (fun t k => XS.icmpNo X204.here hx rfl (hb hby at_278) rfl (own_teq (x := (-126 : Int32)) (y := (-126 : Int32)) (show (-126) = (-126) from by decide)).2 k) ?_
    refine own_st (fr' := (mkF m 283 #[oI p0, oI p1, oI p2, oI 7, oI z121_0, oI 300, oI 4, .val (.ref ar), oI fi, oI se, .val (.ref d), .val (.ref co), .val (.ref ec), oI 1] [(.ref ec)])) (fun t k => XS.aload X204.here hx rfl (hb hby at_281) rfl rfl k) ?_
    refine own_st (fr' := (mkF m 285 #[oI p0, oI p1, oI p2, oI 7, oI z121_0, oI 300, oI 4, .val (.ref ar), oI fi, oI se, .val (.ref d), .val (.ref co), .val (.ref ec), oI 1] [(.int 4), (.ref ec)])) (fun t k => XS.iload X204.here hx rfl (hb hby at_283) rfl  k) ?_
    refine own_st (fr' := (mkF m 286 #[oI p0, oI p1, oI p2, oI 7, oI z121_0, oI 300, oI 4, .val (.ref ar), oI fi, oI se, .val (.ref d), .val (.ref co), .val (.ref ec), oI 1] [(.int 1), (.int 4), (.ref ec)])) (fun t k => XS.iconst X204.here hx rfl (hb hby at_285) k) ?_
    refine own_st (fr' := (mkF m 287 #[oI p0, oI p1, oI p2, oI 7, oI z121_0, oI 300, oI 4, .val (.ref ar), oI fi, oI se, .val (.ref d), .val (.ref co), .val (.ref ec), oI 1] [(.int 3), (.ref ec)])) (fun t k => XS.isub X204.here hx rfl (hb hby at_286) rfl k) ?_
    refine own_baload (j := (3 : Int32)) X204 hx hZ eq204 VE (by decide) (by decide) (v := (.int 44)) (hv3) (hb hby at_287) ?_
    refine own_st (fr' := (mkF m 290 #[oI p0, oI p1, oI p2, oI 7, oI z121_0, oI 300, oI 4, .val (.ref ar), oI fi, oI se, .val (.ref d), .val (.ref co), .val (.ref ec), oI 1] [(.ref ar), (.int 44)])) (fun t k => XS.aload X204.here hx rfl (hb hby at_288) rfl rfl k) ?_
    refine own_st (fr' := (mkF m 292 #[oI p0, oI p1, oI p2, oI 7, oI z121_0, oI 300, oI 4, .val (.ref ar), oI fi, oI se, .val (.ref d), .val (.ref co), .val (.ref ec), oI 1] [(.int 4), (.ref ar), (.int 44)])) (fun t k => XS.iload X204.here hx rfl (hb hby at_290) rfl  k) ?_
    refine own_st (fr' := (mkF m 293 #[oI p0, oI p1, oI p2, oI 7, oI z121_0, oI 300, oI 4, .val (.ref ar), oI fi, oI se, .val (.ref d), .val (.ref co), .val (.ref ec), oI 1] [(.int 1), (.int 4), (.ref ar), (.int 44)])) (fun t k => XS.iconst X204.here hx rfl (hb hby at_292) k) ?_
    refine own_st (fr' := (mkF m 294 #[oI p0, oI p1, oI p2, oI 7, oI z121_0, oI 300, oI 4, .val (.ref ar), oI fi, oI se, .val (.ref d), .val (.ref co), .val (.ref ec), oI 1] [(.int 3), (.ref ar), (.int 44)])) (fun t k => XS.isub X204.here hx rfl (hb hby at_293) rfl k) ?_
    refine own_baload (j := (3 : Int32)) X204 hx hZ eq204 (((VF.keep K201 nin0).keep K202 nin0).keep K203 nin0) (by decide) (by decide) (v := (.int 44)) (hv3) (hb hby at_294) ?_
    refine own_st (fr' := (mkF m 298 #[oI p0, oI p1, oI p2, oI 7, oI z121_0, oI 300, oI 4, .val (.ref ar), oI fi, oI se, .val (.ref d), .val (.ref co), .val (.ref ec), oI 1] [])) (fun t k => XS.icmpNo X204.here hx rfl (hb hby at_295) rfl (own_teq (x := (44 : Int32)) (y := (44 : Int32)) (show 44 = 44 from by decide)).2 k) ?_
    refine own_st (fr' := (mkF m 299 #[oI p0, oI p1, oI p2, oI 7, oI z121_0, oI 300, oI 4, .val (.ref ar), oI fi, oI se, .val (.ref d), .val (.ref co), .val (.ref ec), oI 1] [(.int 1)])) (fun t k => XS.iconst X204.here hx rfl (hb hby at_298) k) ?_
    refine own_st (fr' := (mkF m 303 #[oI p0, oI p1, oI p2, oI 7, oI z121_0, oI 300, oI 4, .val (.ref ar), oI fi, oI se, .val (.ref d), .val (.ref co), .val (.ref ec), oI 1] [(.int 1)])) (fun t k => XS.goto X204.here hx rfl (pc0 := 299) (pc' := 303) rfl (hb hby at_299) (by decide) (by decide) k) ?_
    refine own_st (fr' := (mkF m 305 #[oI p0, oI p1, oI p2, oI 7, oI z121_0, oI 300, oI 4, .val (.ref ar), oI fi, oI se, .val (.ref d), .val (.ref co), .val (.ref ec), oI 1] [])) (fun t k => XS.istore X204.here hx rfl (hb hby at_303) rfl  (l' := #[oI p0, oI p1, oI p2, oI 7, oI z121_0, oI 300, oI 4, .val (.ref ar), oI fi, oI se, .val (.ref d), .val (.ref co), .val (.ref ec), oI 1]) rfl k) ?_
    refine own_st (fr' := (mkF m 307 #[oI p0, oI p1, oI p2, oI 7, oI z121_0, oI 300, oI 4, .val (.ref ar), oI fi, oI se, .val (.ref d), .val (.ref co), .val (.ref ec), oI 1] [(.int 1)])) (fun t k => XS.iload X204.here hx rfl (hb hby at_305) rfl  k) ?_
    refine own_st (fr' := (mkF m 310 #[oI p0, oI p1, oI p2, oI 7, oI z121_0, oI 300, oI 4, .val (.ref ar), oI fi, oI se, .val (.ref d), .val (.ref co), .val (.ref ec), oI 1] [])) (fun t k => XS.ifNo X204.here hx rfl (hb hby at_307) rfl ((if0 _ _).trans (own_feq (x := (1 : Int32)) (y := (0 : Int32)) (show ¬ 1 = 0 from by decide)).1) k) ?_
    refine own_st (fr' := (mkF m 312 #[oI p0, oI p1, oI p2, oI 7, oI z121_0, oI 300, oI 4, .val (.ref ar), oI fi, oI se, .val (.ref d), .val (.ref co), .val (.ref ec), oI 1] [(.int 300)])) (fun t k => XS.iload X204.here hx rfl (hb hby at_310) rfl  k) ?_
    refine own_st (fr' := (mkF m 313 #[oI p0, oI p1, oI p2, oI 7, oI z121_0, oI 300, oI 4, .val (.ref ar), oI fi, oI se, .val (.ref d), .val (.ref co), .val (.ref ec), oI 1] [(.int 1), (.int 300)])) (fun t k => XS.iconst X204.here hx rfl (hb hby at_312) k) ?_
    refine own_st (fr' := (mkF m 316 #[oI p0, oI p1, oI p2, oI 7, oI z121_0, oI 300, oI 4, .val (.ref ar), oI fi, oI se, .val (.ref d), .val (.ref co), .val (.ref ec), oI 1] [])) (fun t k => XS.icmpNo X204.here hx rfl (hb hby at_313) rfl (own_flt (x := (300 : Int32)) (y := (1 : Int32)) (show ¬ 300 < 1 from by decide)).1 k) ?_
    refine own_st (fr' := (mkF m 318 #[oI p0, oI p1, oI p2, oI 7, oI z121_0, oI 300, oI 4, .val (.ref ar), oI fi, oI se, .val (.ref d), .val (.ref co), .val (.ref ec), oI 1] [(.ref co)])) (fun t k => XS.aload X204.here hx rfl (hb hby at_316) rfl rfl k) ?_
    refine own_st (fr' := (mkF m 319 #[oI p0, oI p1, oI p2, oI 7, oI z121_0, oI 300, oI 4, .val (.ref ar), oI fi, oI se, .val (.ref d), .val (.ref co), .val (.ref ec), oI 1] [(.int 0), (.ref co)])) (fun t k => XS.iconst X204.here hx rfl (hb hby at_318) k) ?_
    refine own_baload (j := (0 : Int32)) X204 hx hZ eq204 (VC.keep K203 nin0) (by decide) (by decide) (v := (.int fi)) ((hgc 0 (by decide)).trans hv4) (hb hby at_319) ?_
    refine own_st (fr' := (mkF m 322 #[oI p0, oI p1, oI p2, oI 7, oI z121_0, oI 300, oI 4, .val (.ref ar), oI fi, oI se, .val (.ref d), .val (.ref co), .val (.ref ec), oI 1] [(.int fi), (.int fi)])) (fun t k => XS.iload X204.here hx rfl (hb hby at_320) rfl  k) ?_
    refine own_st (fr' := (mkF m 325 #[oI p0, oI p1, oI p2, oI 7, oI z121_0, oI 300, oI 4, .val (.ref ar), oI fi, oI se, .val (.ref d), .val (.ref co), .val (.ref ec), oI 1] [])) (fun t k => XS.icmpNo X204.here hx rfl (hb hby at_322) rfl (own_teq (x := fi) (y := fi) (show fi.toInt = fi.toInt from rfl)).2 k) ?_
    refine own_st (fr' := (mkF m 327 #[oI p0, oI p1, oI p2, oI 7, oI z121_0, oI 300, oI 4, .val (.ref ar), oI fi, oI se, .val (.ref d), .val (.ref co), .val (.ref ec), oI 1] [(.ref ec)])) (fun t k => XS.aload X204.here hx rfl (hb hby at_325) rfl rfl k) ?_
    refine own_st (fr' := (mkF m 329 #[oI p0, oI p1, oI p2, oI 7, oI z121_0, oI 300, oI 4, .val (.ref ar), oI fi, oI se, .val (.ref d), .val (.ref co), .val (.ref ec), oI 1] [(.int 4), (.ref ec)])) (fun t k => XS.iload X204.here hx rfl (hb hby at_327) rfl  k) ?_
    refine own_baload (j := (4 : Int32)) X204 hx hZ eq204 VE (by decide) (by decide) (v := (.int fi)) (hv4) (hb hby at_329) ?_
    refine own_st (fr' := (mkF m 332 #[oI p0, oI p1, oI p2, oI 7, oI z121_0, oI 300, oI 4, .val (.ref ar), oI fi, oI se, .val (.ref d), .val (.ref co), .val (.ref ec), oI 1] [(.int fi), (.int fi)])) (fun t k => XS.iload X204.here hx rfl (hb hby at_330) rfl  k) ?_
    refine own_st (fr' := (mkF m 335 #[oI p0, oI p1, oI p2, oI 7, oI z121_0, oI 300, oI 4, .val (.ref ar), oI fi, oI se, .val (.ref d), .val (.ref co), .val (.ref ec), oI 1] [])) (fun t k => XS.icmpNo X204.here hx rfl (hb hby at_332) rfl (own_teq (x := fi) (y := fi) (show fi.toInt = fi.toInt from rfl)).2 k) ?_
    refine own_st (fr' := (mkF m 336 #[oI p0, oI p1, oI p2, oI 7, oI z121_0, oI 300, oI 4, .val (.ref ar), oI fi, oI se, .val (.ref d), .val (.ref co), .val (.ref ec), oI 1] [(.int 1)])) (fun t k => XS.iconst X204.here hx rfl (hb hby at_335) k) ?_
    refine own_st (fr' := (mkF m 340 #[oI p0, oI p1, oI p2, oI 7, oI z121_0, oI 300, oI 4, .val (.ref ar), oI fi, oI se, .val (.ref d), .val (.ref co), .val (.ref ec), oI 1] [(.int 1)])) (fun t k => XS.goto X204.here hx rfl (pc0 := 336) (pc' := 340) rfl (hb hby at_336) (by decide) (by decide) k) ?_
    refine own_st (fr' := (mkF m 342 #[oI p0, oI p1, oI p2, oI 7, oI z121_0, oI 300, oI 4, .val (.ref ar), oI fi, oI se, .val (.ref d), .val (.ref co), .val (.ref ec), oI 1] [])) (fun t k => XS.istore X204.here hx rfl (hb hby at_340) rfl  (l' := #[oI p0, oI p1, oI p2, oI 7, oI z121_0, oI 300, oI 4, .val (.ref ar), oI fi, oI se, .val (.ref d), .val (.ref co), .val (.ref ec), oI 1]) rfl k) ?_
    refine own_st (fr' := (mkF m 344 #[oI p0, oI p1, oI p2, oI 7, oI z121_0, oI 300, oI 4, .val (.ref ar), oI fi, oI se, .val (.ref d), .val (.ref co), .val (.ref ec), oI 1] [(.int 1)])) (fun t k => XS.iload X204.here hx rfl (hb hby at_342) rfl  k) ?_
    refine own_st (fr' := (mkF m 347 #[oI p0, oI p1, oI p2, oI 7, oI z121_0, oI 300, oI 4, .val (.ref ar), oI fi, oI se, .val (.ref d), .val (.ref co), .val (.ref ec), oI 1] [])) (fun t k => XS.ifNo X204.here hx rfl (hb hby at_344) rfl ((if0 _ _).trans (own_feq (x := (1 : Int32)) (y := (0 : Int32)) (show ¬ 1 = 0 from by decide)).1) k) ?_
    refine own_st (fr' := (mkF m 349 #[oI p0, oI p1, oI p2, oI 7, oI z121_0, oI 300, oI 4, .val (.ref ar), oI fi, oI se, .val (.ref d), .val (.ref co), .val (.ref ec), oI 1] [(.int 300)])) (fun t k => XS.iload X204.here hx rfl (hb hby at_347) rfl  k) ?_
    refine own_st (fr' := (mkF m 350 #[oI p0, oI p1, oI p2, oI 7, oI z121_0, oI 300, oI 4, .val (.ref ar), oI fi, oI se, .val (.ref d), .val (.ref co), .val (.ref ec), oI 1] [(.int 2), (.int 300)])) (fun t k => XS.iconst X204.here hx rfl (hb hby at_349) k) ?_
    refine own_st (fr' := (mkF m 353 #[oI p0, oI p1, oI p2, oI 7, oI z121_0, oI 300, oI 4, .val (.ref ar), oI fi, oI se, .val (.ref d), .val (.ref co), .val (.ref ec), oI 1] [])) (fun t k => XS.icmpNo X204.here hx rfl (hb hby at_350) rfl (own_flt (x := (300 : Int32)) (y := (2 : Int32)) (show ¬ 300 < 2 from by decide)).1 k) ?_
    refine own_st (fr' := (mkF m 355 #[oI p0, oI p1, oI p2, oI 7, oI z121_0, oI 300, oI 4, .val (.ref ar), oI fi, oI se, .val (.ref d), .val (.ref co), .val (.ref ec), oI 1] [(.ref co)])) (fun t k => XS.aload X204.here hx rfl (hb hby at_353) rfl rfl k) ?_
    refine own_st (fr' := (mkF m 357 #[oI p0, oI p1, oI p2, oI 7, oI z121_0, oI 300, oI 4, .val (.ref ar), oI fi, oI se, .val (.ref d), .val (.ref co), .val (.ref ec), oI 1] [(.int 300), (.ref co)])) (fun t k => XS.iload X204.here hx rfl (hb hby at_355) rfl  k) ?_
    refine own_st (fr' := (mkF m 358 #[oI p0, oI p1, oI p2, oI 7, oI z121_0, oI 300, oI 4, .val (.ref ar), oI fi, oI se, .val (.ref d), .val (.ref co), .val (.ref ec), oI 1] [(.int 1), (.int 300), (.ref co)])) (fun t k => XS.iconst X204.here hx rfl (hb hby at_357) k) ?_
    refine own_st (fr' := (mkF m 359 #[oI p0, oI p1, oI p2, oI 7, oI z121_0, oI 300, oI 4, .val (.ref ar), oI fi, oI se, .val (.ref d), .val (.ref co), .val (.ref ec), oI 1] [(.int 299), (.ref co)])) (fun t k => XS.isub X204.here hx rfl (hb hby at_358) rfl k) ?_
    refine own_baload (j := (299 : Int32)) X204 hx hZ eq204 (VC.keep K203 nin0) (by decide) (by decide) (v := (.int se)) ((hgc 299 (by decide)).trans hv303) (hb hby at_359) ?_
    refine own_st (fr' := (mkF m 362 #[oI p0, oI p1, oI p2, oI 7, oI z121_0, oI 300, oI 4, .val (.ref ar), oI fi, oI se, .val (.ref d), .val (.ref co), .val (.ref ec), oI 1] [(.int se), (.int se)])) (fun t k => XS.iload X204.here hx rfl (hb hby at_360) rfl  k) ?_
    refine own_st (fr' := (mkF m 365 #[oI p0, oI p1, oI p2, oI 7, oI z121_0, oI 300, oI 4, .val (.ref ar), oI fi, oI se, .val (.ref d), .val (.ref co), .val (.ref ec), oI 1] [])) (fun t k => XS.icmpNo X204.here hx rfl (hb hby at_362) rfl (own_teq (x := se) (y := se) (show se.toInt = se.toInt from rfl)).2 k) ?_
    refine own_st (fr' := (mkF m 367 #[oI p0, oI p1, oI p2, oI 7, oI z121_0, oI 300, oI 4, .val (.ref ar), oI fi, oI se, .val (.ref d), .val (.ref co), .val (.ref ec), oI 1] [(.ref ec)])) (fun t k => XS.aload X204.here hx rfl (hb hby at_365) rfl rfl k) ?_
    refine own_st (fr' := (mkF m 369 #[oI p0, oI p1, oI p2, oI 7, oI z121_0, oI 300, oI 4, .val (.ref ar), oI fi, oI se, .val (.ref d), .val (.ref co), .val (.ref ec), oI 1] [(.ref ar), (.ref ec)])) (fun t k => XS.aload X204.here hx rfl (hb hby at_367) rfl rfl k) ?_
    refine own_alen X204 hx hZ eq204 (((VF.keep K201 nin0).keep K202 nin0).keep K203 nin0) (hb hby at_369) ?_
    refine own_st (fr' := (mkF m 371 #[oI p0, oI p1, oI p2, oI 7, oI z121_0, oI 300, oI 4, .val (.ref ar), oI fi, oI se, .val (.ref d), .val (.ref co), .val (.ref ec), oI 1] [(.int 1), (.int 304), (.ref ec)])) (fun t k => XS.iconst X204.here hx rfl (hb hby at_370) k) ?_
    refine own_st (fr' := (mkF m 372 #[oI p0, oI p1, oI p2, oI 7, oI z121_0, oI 300, oI 4, .val (.ref ar), oI fi, oI se, .val (.ref d), .val (.ref co), .val (.ref ec), oI 1] [(.int 303), (.ref ec)])) (fun t k => XS.isub X204.here hx rfl (hb hby at_371) rfl k) ?_
    refine own_baload (j := (303 : Int32)) X204 hx hZ eq204 VE (by decide) (by decide) (v := (.int se)) (hv303) (hb hby at_372) ?_
    refine own_st (fr' := (mkF m 375 #[oI p0, oI p1, oI p2, oI 7, oI z121_0, oI 300, oI 4, .val (.ref ar), oI fi, oI se, .val (.ref d), .val (.ref co), .val (.ref ec), oI 1] [(.int se), (.int se)])) (fun t k => XS.iload X204.here hx rfl (hb hby at_373) rfl  k) ?_
    refine own_st (fr' := (mkF m 378 #[oI p0, oI p1, oI p2, oI 7, oI z121_0, oI 300, oI 4, .val (.ref ar), oI fi, oI se, .val (.ref d), .val (.ref co), .val (.ref ec), oI 1] [])) (fun t k => XS.icmpNo X204.here hx rfl (hb hby at_375) rfl (own_teq (x := se) (y := se) (show se.toInt = se.toInt from rfl)).2 k) ?_
    refine own_st (fr' := (mkF m 379 #[oI p0, oI p1, oI p2, oI 7, oI z121_0, oI 300, oI 4, .val (.ref ar), oI fi, oI se, .val (.ref d), .val (.ref co), .val (.ref ec), oI 1] [(.int 1)])) (fun t k => XS.iconst X204.here hx rfl (hb hby at_378) k) ?_
    refine own_st (fr' := (mkF m 383 #[oI p0, oI p1, oI p2, oI 7, oI z121_0, oI 300, oI 4, .val (.ref ar), oI fi, oI se, .val (.ref d), .val (.ref co), .val (.ref ec), oI 1] [(.int 1)])) (fun t k => XS.goto X204.here hx rfl (pc0 := 379) (pc' := 383) rfl (hb hby at_379) (by decide) (by decide) k) ?_
    refine own_st (fr' := (mkF m 385 #[oI p0, oI p1, oI p2, oI 7, oI z121_0, oI 300, oI 4, .val (.ref ar), oI fi, oI se, .val (.ref d), .val (.ref co), .val (.ref ec), oI 1] [])) (fun t k => XS.istore X204.here hx rfl (hb hby at_383) rfl  (l' := #[oI p0, oI p1, oI p2, oI 7, oI z121_0, oI 300, oI 4, .val (.ref ar), oI fi, oI se, .val (.ref d), .val (.ref co), .val (.ref ec), oI 1]) rfl k) ?_
    refine own_st (fr' := (mkF m 387 #[oI p0, oI p1, oI p2, oI 7, oI z121_0, oI 300, oI 4, .val (.ref ar), oI fi, oI se, .val (.ref d), .val (.ref co), .val (.ref ec), oI 1] [(.int 1)])) (fun t k => XS.iload X204.here hx rfl (hb hby at_385) rfl  k) ?_
    refine own_st (fr' := (mkF m 390 #[oI p0, oI p1, oI p2, oI 7, oI z121_0, oI 300, oI 4, .val (.ref ar), oI fi, oI se, .val (.ref d), .val (.ref co), .val (.ref ec), oI 1] [])) (fun t k => XS.ifNo X204.here hx rfl (hb hby at_387) rfl ((if0 _ _).trans (own_feq (x := (1 : Int32)) (y := (0 : Int32)) (show ¬ 1 = 0 from by decide)).1) k) ?_
    refine own_st (fr' := (mkF m 392 #[oI p0, oI p1, oI p2, oI 7, oI z121_0, oI 300, oI 4, .val (.ref ar), oI fi, oI se, .val (.ref d), .val (.ref co), .val (.ref ec), oI 1] [(.int 300)])) (fun t k => XS.iload X204.here hx rfl (hb hby at_390) rfl  k) ?_
    refine own_st (fr' := (mkF m 393 #[oI p0, oI p1, oI p2, oI 7, oI z121_0, oI 300, oI 4, .val (.ref ar), oI fi, oI se, .val (.ref d), .val (.ref co), .val (.ref ec), oI 1] [(.int 3), (.int 300)])) (fun t k => XS.iconst X204.here hx rfl (hb hby at_392) k) ?_
    refine own_st (fr' := (mkF m 396 #[oI p0, oI p1, oI p2, oI 7, oI z121_0, oI 300, oI 4, .val (.ref ar), oI fi, oI se, .val (.ref d), .val (.ref co), .val (.ref ec), oI 1] [])) (fun t k => XS.icmpNo X204.here hx rfl (hb hby at_393) rfl (own_flt (x := (300 : Int32)) (y := (3 : Int32)) (show ¬ 300 < 3 from by decide)).1 k) ?_
    refine own_st (fr' := (mkF m 398 #[oI p0, oI p1, oI p2, oI 7, oI z121_0, oI 300, oI 4, .val (.ref ar), oI fi, oI se, .val (.ref d), .val (.ref co), .val (.ref ec), oI 1] [(.ref co)])) (fun t k => XS.aload X204.here hx rfl (hb hby at_396) rfl rfl k) ?_
    refine own_st (fr' := (mkF m 399 #[oI p0, oI p1, oI p2, oI 7, oI z121_0, oI 300, oI 4, .val (.ref ar), oI fi, oI se, .val (.ref d), .val (.ref co), .val (.ref ec), oI 1] [(.int 1), (.ref co)])) (fun t k => XS.iconst X204.here hx rfl (hb hby at_398) k) ?_
    refine own_baload (j := (1 : Int32)) X204 hx hZ eq204 (VC.keep K203 nin0) (by decide) (by decide) (v := (.int 0)) ((hgc 1 (by decide)).trans hvz) (hb hby at_399) ?_
    refine own_st (fr' := (mkF m 403 #[oI p0, oI p1, oI p2, oI 7, oI z121_0, oI 300, oI 4, .val (.ref ar), oI fi, oI se, .val (.ref d), .val (.ref co), .val (.ref ec), oI 1] [])) (fun t k => XS.ifNo X204.here hx rfl (hb hby at_400) rfl ((if0 _ _).trans (own_teq (x := (0 : Int32)) (y := (0 : Int32)) (show 0 = 0 from by decide)).2) k) ?_
    refine own_st (fr' := (mkF m 405 #[oI p0, oI p1, oI p2, oI 7, oI z121_0, oI 300, oI 4, .val (.ref ar), oI fi, oI se, .val (.ref d), .val (.ref co), .val (.ref ec), oI 1] [(.ref ec)])) (fun t k => XS.aload X204.here hx rfl (hb hby at_403) rfl rfl k) ?_
    refine own_st (fr' := (mkF m 407 #[oI p0, oI p1, oI p2, oI 7, oI z121_0, oI 300, oI 4, .val (.ref ar), oI fi, oI se, .val (.ref d), .val (.ref co), .val (.ref ec), oI 1] [(.int 4), (.ref ec)])) (fun t k => XS.iload X204.here hx rfl (hb hby at_405) rfl  k) ?_
    refine own_st (fr' := (mkF m 408 #[oI p0, oI p1, oI p2, oI 7, oI z121_0, oI 300, oI 4, .val (.ref ar), oI fi, oI se, .val (.ref d), .val (.ref co), .val (.ref ec), oI 1] [(.int 1), (.int 4), (.ref ec)])) (fun t k => XS.iconst X204.here hx rfl (hb hby at_407) k) ?_
    refine own_st (fr' := (mkF m 409 #[oI p0, oI p1, oI p2, oI 7, oI z121_0, oI 300, oI 4, .val (.ref ar), oI fi, oI se, .val (.ref d), .val (.ref co), .val (.ref ec), oI 1] [(.int 5), (.ref ec)])) (fun t k => XS.iadd X204.here hx rfl (hb hby at_408) rfl k) ?_
    refine own_baload (j := (5 : Int32)) X204 hx hZ eq204 VE (by decide) (by decide) (v := (.int 0)) (hvz) (hb hby at_409) ?_
    refine own_st (fr' := (mkF m 413 #[oI p0, oI p1, oI p2, oI 7, oI z121_0, oI 300, oI 4, .val (.ref ar), oI fi, oI se, .val (.ref d), .val (.ref co), .val (.ref ec), oI 1] [])) (fun t k => XS.ifNo X204.here hx rfl (hb hby at_410) rfl ((if0 _ _).trans (own_teq (x := (0 : Int32)) (y := (0 : Int32)) (show 0 = 0 from by decide)).2) k) ?_
    refine own_st (fr' := (mkF m 414 #[oI p0, oI p1, oI p2, oI 7, oI z121_0, oI 300, oI 4, .val (.ref ar), oI fi, oI se, .val (.ref d), .val (.ref co), .val (.ref ec), oI 1] [(.int 1)])) (fun t k => XS.iconst X204.here hx rfl (hb hby at_413) k) ?_
    refine own_st (fr' := (mkF m 418 #[oI p0, oI p1, oI p2, oI 7, oI z121_0, oI 300, oI 4, .val (.ref ar), oI fi, oI se, .val (.ref d), .val (.ref co), .val (.ref ec), oI 1] [(.int 1)])) (fun t k => XS.goto X204.here hx rfl (pc0 := 414) (pc' := 418) rfl (hb hby at_414) (by decide) (by decide) k) ?_
    refine own_st (fr' := (mkF m 420 #[oI p0, oI p1, oI p2, oI 7, oI z121_0, oI 300, oI 4, .val (.ref ar), oI fi, oI se, .val (.ref d), .val (.ref co), .val (.ref ec), oI 1] [])) (fun t k => XS.istore X204.here hx rfl (hb hby at_418) rfl  (l' := #[oI p0, oI p1, oI p2, oI 7, oI z121_0, oI 300, oI 4, .val (.ref ar), oI fi, oI se, .val (.ref d), .val (.ref co), .val (.ref ec), oI 1]) rfl k) ?_
    refine own_st (fr' := (mkF m 422 #[oI p0, oI p1, oI p2, oI 7, oI z121_0, oI 300, oI 4, .val (.ref ar), oI fi, oI se, .val (.ref d), .val (.ref co), .val (.ref ec), oI 1] [(.int 1)])) (fun t k => XS.iload X204.here hx rfl (hb hby at_420) rfl  k) ?_
    exact own_retZ X204 hx hlk hret (Or.inr rfl) (hb hby at_422) (by decide) (by decide) (⟨rfl, N204⟩)
set_option maxRecDepth 65536 in
set_option maxHeartbeats 40000000 in
theorem comes_1 {Post : Tables → Env → Array Value → State → Outcome → State → Prop} (hpost : ∀ tb e args s v u, (limb_1_1.after args s (.returned v) u = true ∧ limb_1_2.after args s (.returned v) u = true ∧ True) → FrameEnd s (.returned v) u (Jvm.fieldLocs frame_1_writes args s ++ Jvm.arrayLocs frame_1_arrays args s ++ Jvm.staticLocs frame_1_statics s) 16 1920 → Post tb e args s (.returned v) u) :
    ArmFor flags0 classFile x code maxLocals ret World_1 tables_1 room_1 Calls_1 rest_1 Pre_1 Post := by
  intro l hfl _ _ p e ha hc hk s m args below hf hA hF happ hP
  obtain ⟨hcalls, hrest, hpre⟩ := hP
  obtain ⟨-, -, -, hnamed, -, -, -, hat⟩ := (Spec.applies_iff hf).mp happ
  obtain ⟨hg, hn⟩ := and_e (Cond.before_iff.mp (show (Jvm.Cond.and given_1 narrow_1).before args s = true from hpre))
  obtain ⟨hcount, ha0⟩ := and_e hg
  obtain ⟨hi0, ha1⟩ := and_e ha0
  obtain ⟨hi1, ha2⟩ := and_e ha1
  have hi2 := ha2
  obtain ⟨w0, w1, w2, rfl⟩ : ∃ w0 w1 w2 : Value, args = #[w0, w1, w2] := by
    have hs : args.size = 3 := by simpa [Cond.value, given_1] using hcount
    obtain ⟨L⟩ := args
    match L, hs with
    | [w0, w1, w2], _ => exact ⟨w0, w1, w2, rfl⟩
  have hw := fun d (hd : d ∈ tables_1) => atoms_spec (ws := Jvm.Cond.code x code maxLocals ret :: tables_1) hat d (List.mem_cons_of_mem _ hd)
  have hfit : Fit s := fun {y c} hc i hi => by
    obtain ⟨ha, rfl⟩ := Array.getElem?_eq_some_iff.mp hc
    have q := List.all_eq_true.mp ((Array.all_eq_true_iff_forall_mem.mp hF) _ (Array.getElem_mem ha)) i (List.mem_range.mpr hi)
    simpa [Array.getElem?_eq_getElem hi] using q
  obtain ⟨i0, ei0⟩ := is_v hi0
  obtain rfl : w0 = (.int i0) := Option.some.inj ei0
  obtain ⟨i1, ei1⟩ := is_v hi1
  obtain rfl : w1 = (.int i1) := Option.some.inj ei1
  obtain ⟨i2, ei2⟩ := is_v hi2
  obtain rfl : w2 = (.int i2) := Option.some.inj ei2
  obtain ⟨n, o, h1, h2, h3, _, L, rfl, ⟨rfl, N⟩, hq⟩ := rm_law l s _ hw tables_1 i0 i1 i2  s.heap s.heap.size (Nat.le_refl _)  p e ha hc hk s m _ below hf ((Spec.applies_iff_loose hf).mp happ).1 ⟨rfl, State.Warmed39.refl s, rfl⟩ trivial
  refine ⟨n, _, h1, h2, h3, hpost _ _ _ _ _ _ ⟨Cond.after_iff.mpr rfl, Cond.after_iff.mpr (eq_i res_at (Term.int_eval (1)) rfl), trivial⟩ ⟨hq.1, hq.2.1, (hq.2.2.sift fun y hy => Or.inr (N y hy)).mono (by decide) (by decide)⟩⟩
theorem main_1_1 : Claimed_1_1 := comes_1 fun _ _ _ _ _ _ h hF => ⟨h.1, hF⟩
theorem main_1_2 : Claimed_1_2 := comes_1 fun _ _ _ _ _ _ h hF => ⟨h.2.1, hF⟩
end Jvm.Pilot.@@N@@
namespace Jvm.Pilot.@@N@@
open Jvm Jvm.ClassFile Sem Op Lib Jvm.Free Jvm.Stand Jvm.Pilot.@@N@@.Jvm.D
/-! MADE BY PROGRAM (witnessworld.py) out of the Statement's table words and the real class files: 12 classes; the members and pool entries that the words name. The judged class is class 1, her method 3. -/
namespace start1
open Jvm.ClassFile
def u (s : String) : CpInfo := .utf8 (stringToUtf16 s)
/-- a pool by its gaps: so many unusable entries, then the entry; so many at the end -/
def gap : Nat → List CpInfo → List CpInfo
  | 0, r => r
  | n + 1, r => .unusable :: gap n r
def poolList (es : List (Nat × CpInfo)) (last : Nat) : List CpInfo := es.foldr (fun e r => gap e.1 (e.2 :: r)) (gap last [])
def pool (es : List (Nat × CpInfo)) (last : Nat) : Array CpInfo := ⟨poolList es last⟩
def fileOf (pool : Array CpInfo) (this : Nat) (attrs : Array Attribute := #[]) (ms : Array MethodInfo := #[]) (fl : Nat := 33) (sup : Nat := 0) (ifs : Array Nat := #[]) (fds : Array FieldInfo := #[]) : ClassFile where
  minorVersion := 0
  majorVersion := 65
  constantPool := pool
  accessFlags := fl
  thisClass := this
  superClass := sup
  interfaces := ifs
  fields := fds
  methods := ms
  attributes := attrs
def plain (name : String) (sup : Option ClassId) : Class where
  name := name
  kind := .ordinary
  loader := none
  accessFlags := 33
  super := sup
  interfaces := #[]
  cf := none
  fields := #[]
  methods := #[]
  instanceTypes := #[]
  staticTypes := #[]
  resolved := #[]
  callSites := []
  init := .initialized
  statics := none
  mirror := none

def pool0 : Array CpInfo := pool [(5, u "<init>"), (0, u "()V"), (1, .class_ 10), (1, u "java/lang/Object"), (85, u "clone"), (0, u "()Ljava/lang/Object;")] 26

def k0c0 : Code := { maxStack := 0, maxLocals := 1, code := object_method_1_code, exceptionTable := #[], attributes := #[] }
def k0m0 : Method := { name := "<init>", desc := "()V", sig := { parameters := [], returnType := none }, accessFlags := 1, code := some k0c0 }
def k0m1 : Method := { name := "clone", desc := "()Ljava/lang/Object;", sig := { parameters := [], returnType := some (.object "java/lang/Object") }, accessFlags := 260, code := none }
/-- java/lang/Object -/
def k0 : Class := { plain "java/lang/Object" none with
  accessFlags := 33
  interfaces := #[]
  cf := some (fileOf pool0 8 #[] #[{ accessFlags := 1, nameIndex := 5, descriptorIndex := 6, attributes := #[] }, { accessFlags := 260, nameIndex := 96, descriptorIndex := 97, attributes := #[] }] 33 0 #[] #[])
  fields := #[]
  methods := #[k0m0, k0m1]
  instanceTypes := #[]
  staticTypes := #[]
  resolved := Array.replicate 124 none
  statics := none }

def pool1 : Array CpInfo := pool [(2, .class_ 4), (1, u "java/lang/Object"), (0, u "<init>"), (0, u "()V"), (0, .methodref 8 9), (0, .class_ 10), (0, .nameAndType 11 12), (0, u "com/example/linkvouch/linkvouch/apk/DerParsePinLaw"), (0, u "lengthOf"), (0, u "(I)I"), (0, .methodref 8 14), (0, .nameAndType 15 16), (0, u "alloc"), (0, u "(I)[B"), (0, .methodref 18 19), (0, .class_ 20), (0, .nameAndType 21 22), (0, u "com/example/linkvouch/linkvouch/apk/Der"), (0, u "parse"), (0, u "([B)Lcom/example/linkvouch/linkvouch/apk/Der;"), (0, .methodref 18 24), (0, .nameAndType 25 26), (0, u "content"), (0, u "()[B"), (0, .methodref 18 28), (0, .nameAndType 29 26), (0, u "encoded"), (0, .methodref 18 31), (0, .nameAndType 32 33), (0, u "tag"), (0, u "()I"), (3, u "law"), (0, u "(III)Z")] 7

def k1m0 : Method := { name := "<init>", desc := "()V", sig := { parameters := [], returnType := none }, accessFlags := 1, code := none }
def k1c1 : Code := { maxStack := 2, maxLocals := 1, code := method_2_code, exceptionTable := #[], attributes := #[] }
def k1m1 : Method := { name := "alloc", desc := "(I)[B", sig := { parameters := [.int], returnType := some (.array .byte) }, accessFlags := 10, code := some k1c1 }
def k1c2 : Code := { maxStack := 2, maxLocals := 1, code := method_3_code, exceptionTable := #[], attributes := #[] }
def k1m2 : Method := { name := "lengthOf", desc := "(I)I", sig := { parameters := [.int], returnType := some .int }, accessFlags := 10, code := some k1c2 }
def k1c3 : Code := { maxStack := 4, maxLocals := 14, code := code, exceptionTable := #[], attributes := #[] }
def k1m3 : Method := { name := "law", desc := "(III)Z", sig := { parameters := [.int, .int, .int], returnType := some .boolean }, accessFlags := 9, code := some k1c3 }
/-- com/example/linkvouch/linkvouch/apk/DerParsePinLaw -/
def k1 : Class := { plain "com/example/linkvouch/linkvouch/apk/DerParsePinLaw" (some 0) with
  accessFlags := 49
  interfaces := #[]
  cf := some (fileOf pool1 8 #[] #[{ accessFlags := 1, nameIndex := 5, descriptorIndex := 6, attributes := #[] }, { accessFlags := 10, nameIndex := 15, descriptorIndex := 16, attributes := #[] }, { accessFlags := 10, nameIndex := 11, descriptorIndex := 12, attributes := #[] }, { accessFlags := 9, nameIndex := 37, descriptorIndex := 38, attributes := #[] }] 49 2 #[] #[])
  fields := #[]
  methods := #[k1m0, k1m1, k1m2, k1m3]
  instanceTypes := #[]
  staticTypes := #[]
  resolved := Array.replicate 46 none
  statics := none }

def pool2 : Array CpInfo := pool [(1, .methodref 2 3), (0, .class_ 4), (0, .nameAndType 5 6), (0, u "java/lang/Object"), (0, u "<init>"), (0, u "()V"), (0, .fieldref 8 9), (0, .class_ 10), (0, .nameAndType 11 12), (0, u "com/example/linkvouch/linkvouch/apk/Der"), (0, u "bytes"), (0, u "[B"), (0, .fieldref 8 14), (0, .nameAndType 15 16), (0, u "tag"), (0, u "I"), (0, .fieldref 8 18), (0, .nameAndType 19 16), (0, u "start"), (0, .fieldref 8 21), (0, .nameAndType 22 16), (0, u "contentStart"), (0, .fieldref 8 24), (0, .nameAndType 25 16), (0, u "end"), (0, .methodref 8 27), (0, .nameAndType 28 29), (0, u "read"), (0, u "([BII)Lcom/example/linkvouch/linkvouch/apk/Der;"), (15, .methodref 8 46), (0, .nameAndType 5 47), (0, u "([BIIII)V"), (16, u "()I"), (13, .methodref 79 80), (0, .class_ 81), (0, .nameAndType 82 83), (0, u "java/util/Arrays"), (0, u "copyOfRange"), (0, u "([BII)[B"), (4, u "content"), (0, u "()[B"), (33, u "INTEGER"), (2, u "OCTET_STRING"), (1, u "OBJECT_IDENTIFIER"), (1, u "SEQUENCE"), (1, u "SET"), (1, u "CONTEXT_0"), (1, u "CONTEXT_1"), (3, u "parse"), (0, u "([B)Lcom/example/linkvouch/linkvouch/apk/Der;"), (9, u "encoded")] 22

def k2c0 : Code := { maxStack := 2, maxLocals := 6, code := prog_30_method_1_code, exceptionTable := #[], attributes := #[] }
def k2m0 : Method := { name := "<init>", desc := "([BIIII)V", sig := { parameters := [(.array .byte), .int, .int, .int, .int], returnType := none }, accessFlags := 2, code := some k2c0 }
def k2c1 : Code := { maxStack := 3, maxLocals := 2, code := prog_30_method_2_code, exceptionTable := #[], attributes := #[] }
def k2m1 : Method := { name := "parse", desc := "([B)Lcom/example/linkvouch/linkvouch/apk/Der;", sig := { parameters := [(.array .byte)], returnType := some (.object "com/example/linkvouch/linkvouch/apk/Der") }, accessFlags := 8, code := some k2c1 }
def k2c2 : Code := { maxStack := 9, maxLocals := 10, code := prog_30_method_3_code, exceptionTable := #[], attributes := #[] }
def k2m2 : Method := { name := "read", desc := "([BII)Lcom/example/linkvouch/linkvouch/apk/Der;", sig := { parameters := [(.array .byte), .int, .int], returnType := some (.object "com/example/linkvouch/linkvouch/apk/Der") }, accessFlags := 10, code := some k2c2 }
def k2c3 : Code := { maxStack := 1, maxLocals := 1, code := prog_30_method_4_code, exceptionTable := #[], attributes := #[] }
def k2m3 : Method := { name := "tag", desc := "()I", sig := { parameters := [], returnType := some .int }, accessFlags := 0, code := some k2c3 }
def k2c4 : Code := { maxStack := 3, maxLocals := 1, code := prog_30_method_8_code, exceptionTable := #[], attributes := #[] }
def k2m4 : Method := { name := "encoded", desc := "()[B", sig := { parameters := [], returnType := some (.array .byte) }, accessFlags := 0, code := some k2c4 }
def k2c5 : Code := { maxStack := 3, maxLocals := 1, code := prog_30_method_9_code, exceptionTable := #[], attributes := #[] }
def k2m5 : Method := { name := "content", desc := "()[B", sig := { parameters := [], returnType := some (.array .byte) }, accessFlags := 0, code := some k2c5 }
/-- com/example/linkvouch/linkvouch/apk/Der -/
def k2 : Class := { plain "com/example/linkvouch/linkvouch/apk/Der" (some 0) with
  accessFlags := 48
  interfaces := #[]
  cf := some (fileOf pool2 8 #[] #[{ accessFlags := 2, nameIndex := 5, descriptorIndex := 47, attributes := #[] }, { accessFlags := 8, nameIndex := 140, descriptorIndex := 141, attributes := #[] }, { accessFlags := 10, nameIndex := 28, descriptorIndex := 29, attributes := #[] }, { accessFlags := 0, nameIndex := 15, descriptorIndex := 64, attributes := #[] }, { accessFlags := 0, nameIndex := 151, descriptorIndex := 89, attributes := #[] }, { accessFlags := 0, nameIndex := 88, descriptorIndex := 89, attributes := #[] }] 48 2 #[] #[{ accessFlags := 24, nameIndex := 123, descriptorIndex := 16, attributes := #[] }, { accessFlags := 24, nameIndex := 126, descriptorIndex := 16, attributes := #[] }, { accessFlags := 24, nameIndex := 128, descriptorIndex := 16, attributes := #[] }, { accessFlags := 24, nameIndex := 130, descriptorIndex := 16, attributes := #[] }, { accessFlags := 24, nameIndex := 132, descriptorIndex := 16, attributes := #[] }, { accessFlags := 24, nameIndex := 134, descriptorIndex := 16, attributes := #[] }, { accessFlags := 24, nameIndex := 136, descriptorIndex := 16, attributes := #[] }, { accessFlags := 18, nameIndex := 11, descriptorIndex := 12, attributes := #[] }, { accessFlags := 18, nameIndex := 15, descriptorIndex := 16, attributes := #[] }, { accessFlags := 18, nameIndex := 19, descriptorIndex := 16, attributes := #[] }, { accessFlags := 18, nameIndex := 22, descriptorIndex := 16, attributes := #[] }, { accessFlags := 18, nameIndex := 25, descriptorIndex := 16, attributes := #[] }])
  fields := #[{ name := "INTEGER", type := .int, accessFlags := 24, slot := 0, constantValue := 0 }, { name := "OCTET_STRING", type := .int, accessFlags := 24, slot := 1, constantValue := 0 }, { name := "OBJECT_IDENTIFIER", type := .int, accessFlags := 24, slot := 2, constantValue := 0 }, { name := "SEQUENCE", type := .int, accessFlags := 24, slot := 3, constantValue := 0 }, { name := "SET", type := .int, accessFlags := 24, slot := 4, constantValue := 0 }, { name := "CONTEXT_0", type := .int, accessFlags := 24, slot := 5, constantValue := 0 }, { name := "CONTEXT_1", type := .int, accessFlags := 24, slot := 6, constantValue := 0 }, { name := "bytes", type := (.array .byte), accessFlags := 18, slot := 0, constantValue := 0 }, { name := "tag", type := .int, accessFlags := 18, slot := 1, constantValue := 0 }, { name := "start", type := .int, accessFlags := 18, slot := 2, constantValue := 0 }, { name := "contentStart", type := .int, accessFlags := 18, slot := 3, constantValue := 0 }, { name := "end", type := .int, accessFlags := 18, slot := 4, constantValue := 0 }]
  methods := #[k2m0, k2m1, k2m2, k2m3, k2m4, k2m5]
  instanceTypes := #[(.array .byte), .int, .int, .int, .int]
  staticTypes := #[.int, .int, .int, .int, .int, .int, .int]
  resolved := Array.replicate 174 none
  statics := none }

def pool3 : Array CpInfo := pool [(2, .class_ 4), (1, u "java/lang/Object"), (0, u "<init>"), (0, u "()V"), (7, .class_ 16), (1, u "java/util/Arrays"), (57, .class_ 76), (1, u "java/util/Arrays$NaturalOrder"), (32, u "()Ljava/lang/Object;"), (3, .class_ 115), (1, u "java/util/Arrays$LegacyMergeSort"), (1, u "Z"), (10, .nameAndType 129 109), (0, u "clone"), (9, u "copyOfRange"), (10, .methodref 151 152), (0, .class_ 153), (0, .nameAndType 154 155), (0, u "java/lang/System"), (0, u "arraycopy"), (0, u "(Ljava/lang/Object;ILjava/lang/Object;II)V"), (148, .methodref 305 306), (0, .class_ 307), (0, .nameAndType 308 309), (0, u "java/lang/Math"), (0, u "min"), (0, u "(II)I"), (0, .methodref 311 128), (0, .class_ 312), (0, u "[B"), (26, .methodref 14 340), (0, .nameAndType 341 342), (0, u "copyOfRangeByte"), (0, u "([BII)[B"), (0, .methodref 14 344), (0, .nameAndType 345 346), (0, u "checkLength"), (0, u "(II)V"), (28, .class_ 376), (0, u "java/util/Arrays$ArrayList"), (68, u "$assertionsDisabled"), (269, u "MIN_ARRAY_SORT_GRAN"), (0, u "I"), (2, u "INSERTIONSORT_THRESHOLD"), (255, .class_ 976), (0, u "java/util/Arrays$ArrayItr")] 52

def k3m0 : Method := { name := "<init>", desc := "()V", sig := { parameters := [], returnType := none }, accessFlags := 2, code := none }
def k3c1 : Code := { maxStack := 4, maxLocals := 2, code := jdk_65_method_131_code, exceptionTable := #[], attributes := #[] }
def k3m1 : Method := { name := "checkLength", desc := "(II)V", sig := { parameters := [.int, .int], returnType := none }, accessFlags := 10, code := some k3c1 }
def k3c2 : Code := { maxStack := 3, maxLocals := 3, code := jdk_65_method_132_code, exceptionTable := #[], attributes := #[] }
def k3m2 : Method := { name := "copyOfRange", desc := "([BII)[B", sig := { parameters := [(.array .byte), .int, .int], returnType := some (.array .byte) }, accessFlags := 9, code := some k3c2 }
def k3c3 : Code := { maxStack := 6, maxLocals := 5, code := jdk_65_method_133_code, exceptionTable := #[], attributes := #[] }
def k3m3 : Method := { name := "copyOfRangeByte", desc := "([BII)[B", sig := { parameters := [(.array .byte), .int, .int], returnType := some (.array .byte) }, accessFlags := 10, code := some k3c3 }
/-- java/util/Arrays -/
def k3 : Class := { plain "java/util/Arrays" (some 0) with
  accessFlags := 49
  interfaces := #[]
  cf := some (fileOf pool3 14 #[.nestMembers #[975, 375, 113, 74]] #[{ accessFlags := 2, nameIndex := 5, descriptorIndex := 6, attributes := #[] }, { accessFlags := 10, nameIndex := 345, descriptorIndex := 346, attributes := #[] }, { accessFlags := 9, nameIndex := 139, descriptorIndex := 342, attributes := #[] }, { accessFlags := 10, nameIndex := 341, descriptorIndex := 342, attributes := #[] }] 49 2 #[] #[{ accessFlags := 26, nameIndex := 715, descriptorIndex := 716, attributes := #[] }, { accessFlags := 26, nameIndex := 719, descriptorIndex := 716, attributes := #[] }, { accessFlags := 4120, nameIndex := 445, descriptorIndex := 117, attributes := #[] }])
  fields := #[{ name := "MIN_ARRAY_SORT_GRAN", type := .int, accessFlags := 26, slot := 0, constantValue := 0 }, { name := "INSERTIONSORT_THRESHOLD", type := .int, accessFlags := 26, slot := 1, constantValue := 0 }, { name := "$assertionsDisabled", type := .boolean, accessFlags := 4120, slot := 2, constantValue := 0 }]
  methods := #[k3m0, k3m1, k3m2, k3m3]
  instanceTypes := #[]
  staticTypes := #[.int, .int, .boolean]
  resolved := Array.replicate 1029 none
  statics := none }

def pool4 : Array CpInfo := pool [(1, .class_ 2), (0, u "java/lang/Math"), (1, .class_ 6), (1, u "java/lang/Object"), (0, u "<init>"), (0, u "()V"), (89, .class_ 100), (1, u "java/lang/Math$RandomNumberGeneratorHolder"), (71, u "negativeZeroFloatBits"), (0, u "J"), (2, u "negativeZeroDoubleBits"), (24, u "min"), (43, u "$assertionsDisabled"), (0, u "Z"), (88, u "(II)I"), (2, u "twoToTheDoubleScaleDown"), (0, u "D"), (4, u "twoToTheDoubleScaleUp"), (9, u "E"), (3, u "PI"), (2, u "TAU"), (2, u "DEGREES_TO_RADIANS"), (0, u "RADIANS_TO_DEGREES")] 94

def k4m0 : Method := { name := "<init>", desc := "()V", sig := { parameters := [], returnType := none }, accessFlags := 2, code := none }
def k4c1 : Code := { maxStack := 2, maxLocals := 2, code := jdk_29_method_69_code, exceptionTable := #[], attributes := #[] }
def k4m1 : Method := { name := "min", desc := "(II)I", sig := { parameters := [.int, .int], returnType := some .int }, accessFlags := 9, code := some k4c1 }
/-- java/lang/Math -/
def k4 : Class := { plain "java/lang/Math" (some 0) with
  accessFlags := 49
  interfaces := #[]
  cf := some (fileOf pool4 1 #[.nestMembers #[98]] #[{ accessFlags := 2, nameIndex := 7, descriptorIndex := 8, attributes := #[] }, { accessFlags := 9, nameIndex := 201, descriptorIndex := 335, attributes := #[] }] 49 4 #[] #[{ accessFlags := 25, nameIndex := 354, descriptorIndex := 339, attributes := #[] }, { accessFlags := 25, nameIndex := 358, descriptorIndex := 339, attributes := #[] }, { accessFlags := 25, nameIndex := 361, descriptorIndex := 339, attributes := #[] }, { accessFlags := 26, nameIndex := 364, descriptorIndex := 339, attributes := #[] }, { accessFlags := 26, nameIndex := 365, descriptorIndex := 339, attributes := #[] }, { accessFlags := 26, nameIndex := 172, descriptorIndex := 173, attributes := #[] }, { accessFlags := 26, nameIndex := 176, descriptorIndex := 173, attributes := #[] }, { accessFlags := 8, nameIndex := 344, descriptorIndex := 339, attributes := #[] }, { accessFlags := 8, nameIndex := 338, descriptorIndex := 339, attributes := #[] }, { accessFlags := 4120, nameIndex := 245, descriptorIndex := 246, attributes := #[] }])
  fields := #[{ name := "E", type := .double, accessFlags := 25, slot := 0, constantValue := 0 }, { name := "PI", type := .double, accessFlags := 25, slot := 1, constantValue := 0 }, { name := "TAU", type := .double, accessFlags := 25, slot := 2, constantValue := 0 }, { name := "DEGREES_TO_RADIANS", type := .double, accessFlags := 26, slot := 3, constantValue := 0 }, { name := "RADIANS_TO_DEGREES", type := .double, accessFlags := 26, slot := 4, constantValue := 0 }, { name := "negativeZeroFloatBits", type := .long, accessFlags := 26, slot := 5, constantValue := 0 }, { name := "negativeZeroDoubleBits", type := .long, accessFlags := 26, slot := 6, constantValue := 0 }, { name := "twoToTheDoubleScaleUp", type := .double, accessFlags := 8, slot := 7, constantValue := 0 }, { name := "twoToTheDoubleScaleDown", type := .double, accessFlags := 8, slot := 8, constantValue := 0 }, { name := "$assertionsDisabled", type := .boolean, accessFlags := 4120, slot := 9, constantValue := 0 }]
  methods := #[k4m0, k4m1]
  instanceTypes := #[]
  staticTypes := #[.double, .double, .double, .double, .double, .long, .long, .double, .double, .boolean]
  resolved := Array.replicate 460 none
  statics := none }

def pool5 : Array CpInfo := pool [(2, .class_ 4), (1, u "java/lang/Object"), (0, u "<init>"), (0, u "()V"), (1, .class_ 10), (1, u "java/lang/System"), (0, u "allowSecurityManager"), (0, u "I"), (16, u "cons"), (0, u "Ljava/io/Console;"), (77, .class_ 110), (1, u "java/lang/System$CallersHolder"), (43, u "initialErrStream"), (0, u "Ljava/io/PrintStream;"), (19, u "security"), (0, u "Ljava/lang/SecurityManager;"), (31, .class_ 209), (0, u "java/lang/System$1"), (7, u "props"), (0, u "Ljava/util/Properties;"), (2, u "lineSeparator"), (0, u "Ljava/lang/String;"), (96, .class_ 321), (1, u "java/lang/System$LoggerFinder"), (5, .class_ 328), (0, u "java/lang/System$Logger"), (67, u "err"), (2, u "out"), (91, u "notSupportedJnuEncoding"), (15, u "in"), (17, u "initialIn"), (0, u "Ljava/io/InputStream;"), (35, u "bootLayer"), (0, u "Ljava/lang/ModuleLayer;"), (99, .class_ 664), (0, u "java/lang/System$2"), (9, u "NEVER"), (2, u "MAYBE"), (49, u "arraycopy"), (0, u "(Ljava/lang/Object;ILjava/lang/Object;II)V"), (72, .class_ 802), (0, u "java/lang/System$Logger$Level")] 31

def k5m0 : Method := { name := "<init>", desc := "()V", sig := { parameters := [], returnType := none }, accessFlags := 2, code := none }
def k5m1 : Method := { name := "arraycopy", desc := "(Ljava/lang/Object;ILjava/lang/Object;II)V", sig := { parameters := [(.object "java/lang/Object"), .int, (.object "java/lang/Object"), .int, .int], returnType := none }, accessFlags := 265, code := none }
/-- java/lang/System -/
def k5 : Class := { plain "java/lang/System" (some 0) with
  accessFlags := 49
  interfaces := #[]
  cf := some (fileOf pool5 8 #[.nestMembers #[319, 327, 801, 108, 663, 208]] #[{ accessFlags := 2, nameIndex := 5, descriptorIndex := 6, attributes := #[] }, { accessFlags := 265, nameIndex := 727, descriptorIndex := 728, attributes := #[] }] 49 2 #[] #[{ accessFlags := 25, nameIndex := 507, descriptorIndex := 526, attributes := #[] }, { accessFlags := 25, nameIndex := 399, descriptorIndex := 155, attributes := #[] }, { accessFlags := 25, nameIndex := 396, descriptorIndex := 155, attributes := #[] }, { accessFlags := 10, nameIndex := 525, descriptorIndex := 526, attributes := #[] }, { accessFlags := 26, nameIndex := 674, descriptorIndex := 12, attributes := #[] }, { accessFlags := 26, nameIndex := 677, descriptorIndex := 12, attributes := #[] }, { accessFlags := 10, nameIndex := 11, descriptorIndex := 12, attributes := #[] }, { accessFlags := 74, nameIndex := 175, descriptorIndex := 176, attributes := #[] }, { accessFlags := 10, nameIndex := 491, descriptorIndex := 222, attributes := #[] }, { accessFlags := 74, nameIndex := 29, descriptorIndex := 30, attributes := #[] }, { accessFlags := 74, nameIndex := 154, descriptorIndex := 155, attributes := #[] }, { accessFlags := 10, nameIndex := 217, descriptorIndex := 218, attributes := #[] }, { accessFlags := 10, nameIndex := 221, descriptorIndex := 222, attributes := #[] }, { accessFlags := 8, nameIndex := 562, descriptorIndex := 563, attributes := #[] }])
  fields := #[{ name := "in", type := (.object "java/io/InputStream"), accessFlags := 25, slot := 0, constantValue := 0 }, { name := "out", type := (.object "java/io/PrintStream"), accessFlags := 25, slot := 1, constantValue := 0 }, { name := "err", type := (.object "java/io/PrintStream"), accessFlags := 25, slot := 2, constantValue := 0 }, { name := "initialIn", type := (.object "java/io/InputStream"), accessFlags := 10, slot := 3, constantValue := 0 }, { name := "NEVER", type := .int, accessFlags := 26, slot := 4, constantValue := 0 }, { name := "MAYBE", type := .int, accessFlags := 26, slot := 5, constantValue := 0 }, { name := "allowSecurityManager", type := .int, accessFlags := 10, slot := 6, constantValue := 0 }, { name := "security", type := (.object "java/lang/SecurityManager"), accessFlags := 74, slot := 7, constantValue := 0 }, { name := "notSupportedJnuEncoding", type := (.object "java/lang/String"), accessFlags := 10, slot := 8, constantValue := 0 }, { name := "cons", type := (.object "java/io/Console"), accessFlags := 74, slot := 9, constantValue := 0 }, { name := "initialErrStream", type := (.object "java/io/PrintStream"), accessFlags := 74, slot := 10, constantValue := 0 }, { name := "props", type := (.object "java/util/Properties"), accessFlags := 10, slot := 11, constantValue := 0 }, { name := "lineSeparator", type := (.object "java/lang/String"), accessFlags := 10, slot := 12, constantValue := 0 }, { name := "bootLayer", type := (.object "java/lang/ModuleLayer"), accessFlags := 8, slot := 13, constantValue := 0 }]
  methods := #[k5m0, k5m1]
  instanceTypes := #[]
  staticTypes := #[(.object "java/io/InputStream"), (.object "java/io/PrintStream"), (.object "java/io/PrintStream"), (.object "java/io/InputStream"), .int, .int, .int, (.object "java/lang/SecurityManager"), (.object "java/lang/String"), (.object "java/io/Console"), (.object "java/io/PrintStream"), (.object "java/util/Properties"), (.object "java/lang/String"), (.object "java/lang/ModuleLayer")]
  resolved := Array.replicate 834 none
  statics := none }

def pool6 : Array CpInfo := pool [(1, .class_ 2), (0, u "java/lang/Cloneable"), (0, .class_ 4), (0, u "java/lang/Object")] 2

/-- java/lang/Cloneable -/
def k6 : Class := { plain "java/lang/Cloneable" (some 0) with
  accessFlags := 1537
  interfaces := #[]
  cf := some (fileOf pool6 1 #[] #[] 1537 3 #[] #[])
  fields := #[]
  methods := #[]
  instanceTypes := #[]
  staticTypes := #[]
  resolved := Array.replicate 7 none
  statics := none }

def pool7 : Array CpInfo := pool [(1, u "java/io/Serializable"), (0, .class_ 1), (0, u "java/lang/Object"), (0, .class_ 3)] 3

/-- java/io/Serializable -/
def k7 : Class := { plain "java/io/Serializable" (some 0) with
  accessFlags := 1537
  interfaces := #[]
  cf := some (fileOf pool7 2 #[] #[] 1537 4 #[] #[])
  fields := #[]
  methods := #[]
  instanceTypes := #[]
  staticTypes := #[]
  resolved := Array.replicate 8 none
  statics := none }

/-- the primitive byte -/
def k8 : Class := { plain "byte" none with kind := .primitive 'B', accessFlags := 0x411 }
/-- [B -/
def k9 : Class := { plain "[B" (some 0) with kind := .array 8 .byte, interfaces := #[6, 7], accessFlags := 1041 }

/-- the primitive int -/
def k10 : Class := { plain "int" none with kind := .primitive 'I', accessFlags := 0x411 }
/-- [I -/
def k11 : Class := { plain "[I" (some 0) with kind := .array 10 .int, interfaces := #[6, 7], accessFlags := 1041 }

def heap : Heap := #[]
def classes : Array Class := #[k0, k1, k2, k3, k4, k5, k6, k7, k8, k9, k10, k11]
def interned : List (Array UInt16 × Addr) := []
def slotsUsed : Nat := 0
def theMethod : MethodId := ⟨1, 3⟩
def args0 : Array Value := #[.int 5, .int 7, .int 9]
def aboutOver (below : List Frame) : State where
  vm := { classes := classes, interned := interned.toArray }
  heap := heap
  slotsUsed := slotsUsed
  threads := #[{ frames := .invoking theMethod args0 :: below }]
def below0 : List Frame := [.native { method := ⟨0, 0⟩, args := #[] }]
def about1 : State := aboutOver below0
def p0 : Program := .bare "" "" ""
def e0 : Env := launch0.env 0 0 0
theorem w_frames : about1.frames = Frame.invoking theMethod args0 :: below0 := rfl
set_option maxRecDepth 65536 in
theorem w_args : argsFit about1.vm theMethod args0 = true := by decide +kernel
set_option maxRecDepth 65536 in
theorem w_heap : heapFits about1 = true := by decide +kernel
set_option maxRecDepth 65536 in
theorem w_runnable : about1.curStatus? = some .runnable := by decide +kernel
set_option maxRecDepth 65536 in
theorem w_alone : about1.alone = true := by decide +kernel
set_option maxRecDepth 65536 in
theorem w_named : about1.methodNamed? x = some theMethod := by decide +kernel
set_option maxRecDepth 65536 in
theorem w_hears : about1.hears theMethod below0 = true := by decide +kernel
set_option maxRecDepth 65536 in
theorem w_ripe : about1.ripe theMethod args0 below0 = true := by decide +kernel
theorem w_running : about1.status = .running := rfl
set_option maxRecDepth 65536 in
theorem w_room : about1.hasRoom e0.platform room_1 = true :=
  launch0.hasRoom_least _ room_1 (by decide +kernel) (by decide +kernel) (by decide +kernel) (by decide +kernel) (by decide +kernel) (by decide +kernel)
theorem allAtoms_all (ts : List Jvm.Cond) (a : Array Jvm.Value) (st : Jvm.State) : (allAtoms ts).before a st = ts.all (fun c => c.before a st) := by
  induction ts with
  | nil => rfl
  | cons c t ih =>
    show (Jvm.Cond.and c (allAtoms t)).before a st = _
    rw [Jvm.Cond.before_and, ih, List.all_cons]
def words1 : List Jvm.Cond := Jvm.Cond.code x code maxLocals ret :: tables_1
/-- a 'code' word, met by the world's own term for the bytes: nothing is compared byte by byte -/
theorem code_word {y : MethodName} {bytes : ByteArray} {mx : Nat} {rt : Option FieldType} {a : Array Value} {s : State} {m : MethodId} {meth : Method} {c : Code} (h1 : s.methodNamed? y = some m) (h2 : s.vm.method? m = some meth) (h3 : meth.code = some c) (h4 : c.code = bytes)
    (h5 : (c.maxLocals == mx && c.exceptionTable.isEmpty && decide (c.maxStack ≤ mostOperands) && decide (meth.sig.returnType = rt) && !meth.locks && decide (parseMethodDescriptor y.desc = some meth.sig)) = true) : (Jvm.Cond.code y bytes mx rt).before a s = true := by
  simp only [Bool.and_eq_true, beq_iff_eq, Bool.not_eq_true', decide_eq_true_eq] at h5
  obtain ⟨⟨⟨⟨⟨g1, g2⟩, g3⟩, g4⟩, g5⟩, g6⟩ := h5
  simp [Cond.before, Cond.holds, Cond.value, h1, h2, h3, h4, g1, g2, g3, g4, g5, g6]
def isCode : Jvm.Cond → Bool
  | .code _ _ _ _ => true
  | _ => false
theorem all_split {L : List Jvm.Cond} {P : Jvm.Cond → Bool} (h1 : L.all (fun c => isCode c || P c) = true) (h2 : ∀ c ∈ L.filter isCode, P c = true) : L.all P = true := by
  refine List.all_eq_true.mpr fun c hc => ?_
  have h := List.all_eq_true.mp h1 c hc
  rcases Bool.eq_false_or_eq_true (isCode c) with hi | hi
  · exact h2 c (List.mem_filter.mpr ⟨hc, hi⟩)
  · simpa [hi] using h
set_option maxRecDepth 65536 in
theorem w_c0 : (Jvm.Cond.code x code maxLocals ret).before args0 about1 = true := code_word (m := ⟨1, 3⟩) (meth := k1m3) (c := k1c3) (by decide +kernel) rfl rfl rfl (by decide +kernel)
set_option maxRecDepth 65536 in
theorem w_c1 : (Jvm.Cond.code ({ cls := "com/example/linkvouch/linkvouch/apk/DerParsePinLaw", name := "lengthOf", desc := "(I)I" } : Jvm.MethodName) method_3_code (1 : Nat) (Option.some Jvm.ClassFile.FieldType.int)).before args0 about1 = true := code_word (m := ⟨1, 2⟩) (meth := k1m2) (c := k1c2) (by decide +kernel) rfl rfl rfl (by decide +kernel)
set_option maxRecDepth 65536 in
theorem w_c2 : (Jvm.Cond.code ({ cls := "com/example/linkvouch/linkvouch/apk/DerParsePinLaw", name := "alloc", desc := "(I)[B" } : Jvm.MethodName) method_2_code (1 : Nat) (Option.some (Jvm.ClassFile.FieldType.array Jvm.ClassFile.FieldType.byte))).before args0 about1 = true := code_word (m := ⟨1, 1⟩) (meth := k1m1) (c := k1c1) (by decide +kernel) rfl rfl rfl (by decide +kernel)
set_option maxRecDepth 65536 in
theorem w_c3 : (Jvm.Cond.code ({ cls := "com/example/linkvouch/linkvouch/apk/Der", name := "parse", desc := "([B)Lcom/example/linkvouch/linkvouch/apk/Der;" } : Jvm.MethodName) prog_30_method_2_code (2 : Nat) (Option.some (Jvm.ClassFile.FieldType.object "com/example/linkvouch/linkvouch/apk/Der"))).before args0 about1 = true := code_word (m := ⟨2, 1⟩) (meth := k2m1) (c := k2c1) (by decide +kernel) rfl rfl rfl (by decide +kernel)
set_option maxRecDepth 65536 in
theorem w_c4 : (Jvm.Cond.code ({ cls := "com/example/linkvouch/linkvouch/apk/Der", name := "read", desc := "([BII)Lcom/example/linkvouch/linkvouch/apk/Der;" } : Jvm.MethodName) prog_30_method_3_code (10 : Nat) (Option.some (Jvm.ClassFile.FieldType.object "com/example/linkvouch/linkvouch/apk/Der"))).before args0 about1 = true := code_word (m := ⟨2, 2⟩) (meth := k2m2) (c := k2c2) (by decide +kernel) rfl rfl rfl (by decide +kernel)
set_option maxRecDepth 65536 in
theorem w_c5 : (Jvm.Cond.code ({ cls := "com/example/linkvouch/linkvouch/apk/Der", name := "<init>", desc := "([BIIII)V" } : Jvm.MethodName) prog_30_method_1_code (6 : Nat) (Option.none : Option Jvm.ClassFile.FieldType)).before args0 about1 = true := code_word (m := ⟨2, 0⟩) (meth := k2m0) (c := k2c0) (by decide +kernel) rfl rfl rfl (by decide +kernel)
set_option maxRecDepth 65536 in
theorem w_c6 : (Jvm.Cond.code ({ cls := "java/lang/Object", name := "<init>", desc := "()V" } : Jvm.MethodName) object_method_1_code (1 : Nat) (Option.none : Option Jvm.ClassFile.FieldType)).before args0 about1 = true := code_word (m := ⟨0, 0⟩) (meth := k0m0) (c := k0c0) (by decide +kernel) rfl rfl rfl (by decide +kernel)
set_option maxRecDepth 65536 in
theorem w_c7 : (Jvm.Cond.code ({ cls := "com/example/linkvouch/linkvouch/apk/Der", name := "content", desc := "()[B" } : Jvm.MethodName) prog_30_method_9_code (1 : Nat) (Option.some (Jvm.ClassFile.FieldType.array Jvm.ClassFile.FieldType.byte))).before args0 about1 = true := code_word (m := ⟨2, 5⟩) (meth := k2m5) (c := k2c5) (by decide +kernel) rfl rfl rfl (by decide +kernel)
set_option maxRecDepth 65536 in
theorem w_c8 : (Jvm.Cond.code ({ cls := "java/util/Arrays", name := "copyOfRange", desc := "([BII)[B" } : Jvm.MethodName) jdk_65_method_132_code (3 : Nat) (Option.some (Jvm.ClassFile.FieldType.array Jvm.ClassFile.FieldType.byte))).before args0 about1 = true := code_word (m := ⟨3, 2⟩) (meth := k3m2) (c := k3c2) (by decide +kernel) rfl rfl rfl (by decide +kernel)
set_option maxRecDepth 65536 in
theorem w_c9 : (Jvm.Cond.code ({ cls := "java/util/Arrays", name := "copyOfRangeByte", desc := "([BII)[B" } : Jvm.MethodName) jdk_65_method_133_code (5 : Nat) (Option.some (Jvm.ClassFile.FieldType.array Jvm.ClassFile.FieldType.byte))).before args0 about1 = true := code_word (m := ⟨3, 3⟩) (meth := k3m3) (c := k3c3) (by decide +kernel) rfl rfl rfl (by decide +kernel)
set_option maxRecDepth 65536 in
theorem w_c10 : (Jvm.Cond.code ({ cls := "java/util/Arrays", name := "checkLength", desc := "(II)V" } : Jvm.MethodName) jdk_65_method_131_code (2 : Nat) (Option.none : Option Jvm.ClassFile.FieldType)).before args0 about1 = true := code_word (m := ⟨3, 1⟩) (meth := k3m1) (c := k3c1) (by decide +kernel) rfl rfl rfl (by decide +kernel)
set_option maxRecDepth 65536 in
theorem w_c11 : (Jvm.Cond.code ({ cls := "java/lang/Math", name := "min", desc := "(II)I" } : Jvm.MethodName) jdk_29_method_69_code (2 : Nat) (Option.some Jvm.ClassFile.FieldType.int)).before args0 about1 = true := code_word (m := ⟨4, 1⟩) (meth := k4m1) (c := k4c1) (by decide +kernel) rfl rfl rfl (by decide +kernel)
set_option maxRecDepth 65536 in
theorem w_c12 : (Jvm.Cond.code ({ cls := "com/example/linkvouch/linkvouch/apk/Der", name := "encoded", desc := "()[B" } : Jvm.MethodName) prog_30_method_8_code (1 : Nat) (Option.some (Jvm.ClassFile.FieldType.array Jvm.ClassFile.FieldType.byte))).before args0 about1 = true := code_word (m := ⟨2, 4⟩) (meth := k2m4) (c := k2c4) (by decide +kernel) rfl rfl rfl (by decide +kernel)
set_option maxRecDepth 65536 in
theorem w_c13 : (Jvm.Cond.code ({ cls := "com/example/linkvouch/linkvouch/apk/Der", name := "tag", desc := "()I" } : Jvm.MethodName) prog_30_method_4_code (1 : Nat) (Option.some Jvm.ClassFile.FieldType.int)).before args0 about1 = true := code_word (m := ⟨2, 3⟩) (meth := k2m3) (c := k2c3) (by decide +kernel) rfl rfl rfl (by decide +kernel)
def codes1 : List Jvm.Cond := [Jvm.Cond.code x code maxLocals ret, Jvm.Cond.code ({ cls := "com/example/linkvouch/linkvouch/apk/DerParsePinLaw", name := "lengthOf", desc := "(I)I" } : Jvm.MethodName) method_3_code (1 : Nat) (Option.some Jvm.ClassFile.FieldType.int), Jvm.Cond.code ({ cls := "com/example/linkvouch/linkvouch/apk/DerParsePinLaw", name := "alloc", desc := "(I)[B" } : Jvm.MethodName) method_2_code (1 : Nat) (Option.some (Jvm.ClassFile.FieldType.array Jvm.ClassFile.FieldType.byte)), Jvm.Cond.code ({ cls := "com/example/linkvouch/linkvouch/apk/Der", name := "parse", desc := "([B)Lcom/example/linkvouch/linkvouch/apk/Der;" } : Jvm.MethodName) prog_30_method_2_code (2 : Nat) (Option.some (Jvm.ClassFile.FieldType.object "com/example/linkvouch/linkvouch/apk/Der")), Jvm.Cond.code ({ cls := "com/example/linkvouch/linkvouch/apk/Der", name := "read", desc := "([BII)Lcom/example/linkvouch/linkvouch/apk/Der;" } : Jvm.MethodName) prog_30_method_3_code (10 : Nat) (Option.some (Jvm.ClassFile.FieldType.object "com/example/linkvouch/linkvouch/apk/Der")), Jvm.Cond.code ({ cls := "com/example/linkvouch/linkvouch/apk/Der", name := "<init>", desc := "([BIIII)V" } : Jvm.MethodName) prog_30_method_1_code (6 : Nat) (Option.none : Option Jvm.ClassFile.FieldType), Jvm.Cond.code ({ cls := "java/lang/Object", name := "<init>", desc := "()V" } : Jvm.MethodName) object_method_1_code (1 : Nat) (Option.none : Option Jvm.ClassFile.FieldType), Jvm.Cond.code ({ cls := "com/example/linkvouch/linkvouch/apk/Der", name := "content", desc := "()[B" } : Jvm.MethodName) prog_30_method_9_code (1 : Nat) (Option.some (Jvm.ClassFile.FieldType.array Jvm.ClassFile.FieldType.byte)), Jvm.Cond.code ({ cls := "java/util/Arrays", name := "copyOfRange", desc := "([BII)[B" } : Jvm.MethodName) jdk_65_method_132_code (3 : Nat) (Option.some (Jvm.ClassFile.FieldType.array Jvm.ClassFile.FieldType.byte)), Jvm.Cond.code ({ cls := "java/util/Arrays", name := "copyOfRangeByte", desc := "([BII)[B" } : Jvm.MethodName) jdk_65_method_133_code (5 : Nat) (Option.some (Jvm.ClassFile.FieldType.array Jvm.ClassFile.FieldType.byte)), Jvm.Cond.code ({ cls := "java/util/Arrays", name := "checkLength", desc := "(II)V" } : Jvm.MethodName) jdk_65_method_131_code (2 : Nat) (Option.none : Option Jvm.ClassFile.FieldType), Jvm.Cond.code ({ cls := "java/lang/Math", name := "min", desc := "(II)I" } : Jvm.MethodName) jdk_29_method_69_code (2 : Nat) (Option.some Jvm.ClassFile.FieldType.int), Jvm.Cond.code ({ cls := "com/example/linkvouch/linkvouch/apk/Der", name := "encoded", desc := "()[B" } : Jvm.MethodName) prog_30_method_8_code (1 : Nat) (Option.some (Jvm.ClassFile.FieldType.array Jvm.ClassFile.FieldType.byte)), Jvm.Cond.code ({ cls := "com/example/linkvouch/linkvouch/apk/Der", name := "tag", desc := "()I" } : Jvm.MethodName) prog_30_method_4_code (1 : Nat) (Option.some Jvm.ClassFile.FieldType.int)]
set_option maxRecDepth 65536 in
theorem codes_eq : words1.filter isCode = codes1 := rfl
theorem w_codes : ∀ c ∈ words1.filter isCode, c.before args0 about1 = true := by
  rw [codes_eq]
  intro c hc
  simp only [codes1, List.mem_cons, List.not_mem_nil, or_false] at hc
  rcases hc with rfl | rfl | rfl | rfl | rfl | rfl | rfl | rfl | rfl | rfl | rfl | rfl | rfl | rfl
  · exact w_c0
  · exact w_c1
  · exact w_c2
  · exact w_c3
  · exact w_c4
  · exact w_c5
  · exact w_c6
  · exact w_c7
  · exact w_c8
  · exact w_c9
  · exact w_c10
  · exact w_c11
  · exact w_c12
  · exact w_c13
set_option maxRecDepth 65536 in
theorem w_t1 : (words1.take 24).all (fun c => isCode c || c.before args0 about1) = true := by decide +kernel
set_option maxRecDepth 65536 in
theorem w_t2 : ((words1.drop 24).take 24).all (fun c => isCode c || c.before args0 about1) = true := by decide +kernel
set_option maxRecDepth 65536 in
theorem w_t3 : (((words1.drop 24).drop 24).take 24).all (fun c => isCode c || c.before args0 about1) = true := by decide +kernel
set_option maxRecDepth 65536 in
theorem w_t4 : (((words1.drop 24).drop 24).drop 24).all (fun c => isCode c || c.before args0 about1) = true := by decide +kernel
theorem w_tables : (allAtoms (Jvm.Cond.code x code maxLocals ret :: tables_1)).before args0 about1 = true := by
  rw [allAtoms_all]
  show words1.all (fun c => c.before args0 about1) = true
  refine all_split ?_ w_codes
  rw [← List.take_append_drop 24 words1, List.all_append, w_t1, ← List.take_append_drop 24 (words1.drop 24), List.all_append, w_t2, ← List.take_append_drop 24 ((words1.drop 24).drop 24), List.all_append, w_t3, w_t4]
  rfl
set_option maxRecDepth 65536 in
theorem w_case : (Jvm.Cond.and given_1 narrow_1).before args0 about1 = true := by decide +kernel
theorem w_applies : (headSpec (Jvm.Cond.code x code maxLocals ret :: tables_1) room_1).applies x e0.platform about1 = true :=
  (Spec.applies_iff w_frames).mpr ⟨w_running, w_runnable, w_alone, w_named, w_hears, w_ripe, w_room, w_tables⟩
theorem atStart : AtStart classFile x code maxLocals ret World_1 tables_1 room_1 Calls_1 rest_1 Pre_1 launch0 p0 e0 about1 theMethod args0 below0 :=
  ⟨lists_1, trivial, launch0.admits_env _ _ _, launch0.least_env, fairChoices_fair.cas, fairChoices_fair.clock, w_frames, w_args, w_heap, w_applies, trivial, trivial, w_case⟩
end start1
theorem witness_1 : WitnessClaimed_1 := ⟨start1.p0, start1.e0, start1.about1, start1.theMethod, start1.args0, start1.below0, start1.atStart⟩
end Jvm.Pilot.@@N@@
