import JvmDerived
import JvmDerived.Pilot.@@N@@Statement
import JvmDerived.Pilot.@@N@@Code
set_option linter.unusedVariables false
set_option linter.unusedSimpArgs false
namespace Jvm.Pilot.@@N@@
open Jvm Jvm.ClassFile Sem Op Lib Jvm.Free Jvm.Stand Jvm.LawKit Jvm.RoadKit Bundle Jvm.Pilot.@@N@@.Jvm.D
/-- from T with the frame fr on top the invocation ends; Q holds of what it returned, of the heap and of the written places; kc cells and ks slots at most are new -/
def Go (p : Program) (e : Env) (below : List Frame) (s : State) (kc ks : Nat) (Q : Option Value → Heap → List Loc → Prop) (T : State) (fr : JFrame) : Prop :=
  ∃ s₂ o, Steps p.tables e below (T.setTop fr) s₂ ∧ s₂.status = .running ∧ Ended s₂ below o ∧ ∃ v L, o = .returned v ∧ Q v s₂.heap L ∧ FrameEnd s o s₂ L kc ks
section OwnKit
variable {p : Program} {l : Launch} {e : Env} {R : Room} {s : State} {m : MethodId} {args : Array Value} {below : List Frame} {meth : Method} {c : Code} {T T' : State} {locs : List Loc} {cells slots : Nat} {Z : State} {a0 : Array Value} {h : Heap} {kc ks : Nat} {Q : Option Value → Heap → List Loc → Prop}
theorem own_st {fr fr' : JFrame} (st : ∀ t, Steps p.tables e below (T'.setTop fr') t → Steps p.tables e below (T.setTop fr) t) (k : Go p e below s kc ks Q T' fr') : Go p e below s kc ks Q T fr := by
  obtain ⟨s₂, o, h1, h2⟩ := k
  exact ⟨s₂, o, st _ h1, h2⟩
theorem own_tr {fr fr' : JFrame} (st : Steps p.tables e below (T.setTop fr) (T'.setTop fr')) (k : Go p e below s kc ks Q T' fr') : Go p e below s kc ks Q T fr :=
  own_st (fun _ q => st.trans q) k
theorem own_met {y : MethodName} {bytes : ByteArray} {maxL : Nat} {ret : Option FieldType} {ws : List Jvm.Cond} {rm : Room} {as' : Array Value} {Ls : Array Slot} {h0 : Heap} (hn : plainFor y = true) (hef : ∀ m : MethodId, entryFrame m as' maxL = mkF m 0 Ls [])
    (body : ∀ (p : Program) (e : Env) (s : State) (m : MethodId) (below : List Frame) (meth : Method) (c : Code) (s₁ : State), p.tables.exec = Jvm.exec → c.code = bytes → c.maxLocals = maxL → meth.sig.returnType = ret → meth.locks = false → Z.Warmed39 s.vm → s.vm.findClass y.cls = some m.cls → meth.name = y.name →
      Stand p l e rm s m as' below meth c s₁ [] 0 0 → s₁.heap = h0 → s.heap = h0 → Go p e below s rm.cells rm.slots Q s₁ (mkF m 0 Ls [])) :
    MetFree l y (head1 (Jvm.Cond.code y bytes maxL ret :: ws) rm) (fun a U => a = as' ∧ Z.Warmed39 U.vm ∧ U.heap = h0) (fun _ _ _ _ _ => True) (fun _ U o U' => ∃ v L, o = .returned v ∧ Q v U'.heap L ∧ FrameEnd U o U' L rm.cells rm.slots) := by
  refine MetFree.of_bodySF hn hisR ?_
  intro p e s m args below meth c s₁ Bd hml0 hP hK
  obtain ⟨rfl, hZ, hh⟩ := hP
  have hg := body p e s m below meth c s₁ Bd.exec Bd.bytes hml0 Bd.returns Bd.notSynchronized hZ (findClass_of_methodNamed Bd.named) (name_of_methodNamed Bd.named Bd.method).1 (Stand.of_body Bd) (by rw [← hh, Bd.state]; rfl) hh
  unfold Go at hg
  rw [← hef m] at hg
  exact hg
theorem own_ret (X : Stand p l e R s m args below meth c T locs cells slots) (hx : p.tables.exec = Jvm.exec) (hlk : meth.locks = false) {pc : Nat} {Ls : Array Slot} {w : Value} {t : FieldType} {i : Instr} {rest : List Value} (hret : meth.sig.returnType = some t) (hn : narrow t w = w)
    (hi : (i = .ireturn ∧ (t = .int ∨ t = .boolean ∨ t = .byte ∨ t = .char ∨ t = .short) ∧ ∃ z, w = .int z) ∨ (i = .lreturn ∧ t = .long ∧ ∃ z, w = .long z) ∨ (i = .dreturn ∧ t = .double ∧ ∃ z, w = .double z) ∨ (i = .freturn ∧ t = .float ∧ ∃ z, w = .float z) ∨ (i = .areturn ∧ t.isReference = true ∧ w.isRef = true))
    (hd : decode c.code pc = .ok (i, 1)) (hc : cells ≤ kc) (hs : slots ≤ ks) (hq : Q (some w) T.heap locs) : Go p e below s kc ks Q T (mkF m pc Ls (w :: rest)) := by
  obtain ⟨fs, hr, hrun, hended, hW, hsame⟩ := X.leave (v := some w) (fun h => by rw [hret] at h; cases h) hlk
  exact ⟨_, _, retOut X hx hret hn hi hd hr, hrun, hended, _, _, rfl, hq, ⟨_, rfl⟩, hW, hsame.mono hc hs⟩
theorem own_retI (X : Stand p l e R s m args below meth c T locs cells slots) (hx : p.tables.exec = Jvm.exec) (hlk : meth.locks = false) {pc : Nat} {Ls : Array Slot} {z : Int32} {rest : List Value} (hret : meth.sig.returnType = some .int)
    (hd : decode c.code pc = .ok (.ireturn, 1)) (hc : cells ≤ kc) (hs : slots ≤ ks) (hq : Q (some (.int z)) T.heap locs) : Go p e below s kc ks Q T (mkF m pc Ls (.int z :: rest)) :=
  own_ret X hx hlk hret rfl (Or.inl ⟨rfl, Or.inl rfl, _, rfl⟩) hd hc hs hq
theorem own_retJ (X : Stand p l e R s m args below meth c T locs cells slots) (hx : p.tables.exec = Jvm.exec) (hlk : meth.locks = false) {pc : Nat} {Ls : Array Slot} {z : Int64} {rest : List Value} (hret : meth.sig.returnType = some .long)
    (hd : decode c.code pc = .ok (.lreturn, 1)) (hc : cells ≤ kc) (hs : slots ≤ ks) (hq : Q (some (.long z)) T.heap locs) : Go p e below s kc ks Q T (mkF m pc Ls (.long z :: rest)) :=
  own_ret X hx hlk hret rfl (Or.inr (Or.inl ⟨rfl, rfl, _, rfl⟩)) hd hc hs hq
theorem own_retA (X : Stand p l e R s m args below meth c T locs cells slots) (hx : p.tables.exec = Jvm.exec) (hlk : meth.locks = false) {pc : Nat} {Ls : Array Slot} {w : Value} {t : FieldType} {rest : List Value} (hret : meth.sig.returnType = some t) (ht : t.isReference = true) (hw : w.isRef = true)
    (hd : decode c.code pc = .ok (.areturn, 1)) (hc : cells ≤ kc) (hs : slots ≤ ks) (hq : Q (some w) T.heap locs) : Go p e below s kc ks Q T (mkF m pc Ls (w :: rest)) :=
  own_ret X hx hlk hret (by cases w <;> simp [Value.isRef] at hw <;> cases t <;> simp [FieldType.isReference] at ht <;> rfl) (Or.inr (Or.inr (Or.inr (Or.inr ⟨rfl, ht, hw⟩)))) hd hc hs hq
theorem own_retV (X : Stand p l e R s m args below meth c T locs cells slots) (hx : p.tables.exec = Jvm.exec) (hlk : meth.locks = false) {pc : Nat} {Ls : Array Slot} (hret : meth.sig.returnType = none)
    (hd : decode c.code pc = .ok (.return_, 1)) (hc : cells ≤ kc) (hs : slots ≤ ks) (hq : Q none T.heap locs) : Go p e below s kc ks Q T (mkF m pc Ls []) := by
  obtain ⟨fs, hr, hrun, hended, hW, hsame⟩ := X.leave (v := none) (fun _ => rfl) hlk
  exact ⟨_, _, X.returnOut hx hret hd hr, hrun, hended, _, _, rfl, hq, ⟨_, rfl⟩, hW, hsame.mono hc hs⟩
theorem own_bit {z : Int32} (h : z.toInt = 0 ∨ z.toInt = 1) : z = 0 ∨ z = 1 := by
  rcases h with h | h
  · exact Or.inl (Int32.toInt_inj.mp h)
  · exact Or.inr (Int32.toInt_inj.mp h)
theorem own_retZ (X : Stand p l e R s m args below meth c T locs cells slots) (hx : p.tables.exec = Jvm.exec) (hlk : meth.locks = false) {pc : Nat} {Ls : Array Slot} {z : Int32} {rest : List Value} (hret : meth.sig.returnType = some .boolean) (hz : z.toInt = 0 ∨ z.toInt = 1)
    (hd : decode c.code pc = .ok (.ireturn, 1)) (hc : cells ≤ kc) (hs : slots ≤ ks) (hq : Q (some (.int z)) T.heap locs) : Go p e below s kc ks Q T (mkF m pc Ls (.int z :: rest)) :=
  own_ret X hx hlk hret (by rcases own_bit hz with rfl | rfl <;> rfl) (Or.inl ⟨rfl, Or.inr (Or.inl rfl), _, rfl⟩) hd hc hs hq
theorem own_one {z : Int32} (h : z.toInt = 1) : z = 1 := Int32.toInt_inj.mp h
/-- a static call by the callee's contract -/
theorem own_callS (X : Stand p l e R s m args below meth c T locs cells slots) (hx : p.tables.exec = Jvm.exec) (hZ : Z.Warmed39 s.vm) {own : String} {index : Nat} {y : MethodName} {bytes : ByteArray} {maxL : Nat} {ret : Option FieldType} (hown : s.vm.findClass own = some m.cls)
    (w1 : (Jvm.Cond.methodLink own index y).before a0 Z = true) (w2 : (Jvm.Cond.static y).before a0 Z = true) (w3 : (Jvm.Cond.initialized y.cls).before a0 Z = true) (w4 : (Jvm.Cond.code y bytes maxL ret).before a0 Z = true) (hy : y.cls ≠ "java/lang/invoke/MethodHandle" ∧ y.cls ≠ "java/lang/invoke/VarHandle")
    {rm : Room} {Q' : Option Value → Heap → List Loc → Prop} {argsL rest stk : List Value} {pc W : Nat} {Ls : Array Slot}
    (hM : MetFree l y (head1 [Jvm.Cond.code y bytes maxL ret] rm) (fun a U => a = argsL.toArray ∧ Z.Warmed39 U.vm ∧ U.heap = h) (fun _ _ _ _ _ => True) (fun _ U o U' => ∃ v L, o = .returned v ∧ Q' v U'.heap L ∧ FrameEnd U o U' L rm.cells rm.slots))
    (eT : T.heap = h) (hsize : Ls.size = c.maxLocals) (hlen : ∀ sig, parseMethodDescriptor y.desc = some sig → argsL.length = sig.parameters.length) (hst : stk = argsL.reverse ++ rest) (hW : (rest.map fun v => v.category).sum ≤ W) (hd : decode c.code pc = .ok (.invokestatic index, 3))
    (hf : rm.frames + 1 ≤ R.frames) (hl : W + (maxL + 11) + rm.locals ≤ R.locals) (hc : cells + rm.cells ≤ R.cells) (hs : slots + rm.slots ≤ R.slots)
    (k : ∀ (v : Option Value) (T' : State) (L : List Loc), Stand p l e R s m args below meth c T' (locs ++ L) (cells + rm.cells) (slots + rm.slots) → Q' v T'.heap L → Go p e below s kc ks Q T' (mkF m (pc + 3) Ls (v.toList ++ rest))) :
    Go p e below s kc ks Q T (mkF m pc Ls stk) := by
  subst hst
  obtain ⟨v, _, ⟨T1, L1, k1, n1⟩, -, X1, ⟨Lc, hQ, l1, y1, z1⟩, st⟩ := Jvm.LawKit.callS X hx (y := y) hown (mvT hZ w1) (mvT hZ w2) (mvT hZ w3) (mvT hZ w4) hy (backOf (W := W) hM hZ w4 w3 hf hl) (g := mkF m pc Ls (argsL.reverse ++ rest)) rfl hsize (argsL := argsL) (rest := rest) hlen rfl (by show 2 * 0 + _ ≤ _; omega) hd (fun _ _ => ⟨rfl, eT, hc, hs⟩)
  dsimp only [Pt.U, Pt.locs, Pt.cells, Pt.slots] at X1 l1 y1 z1 st hQ
  subst l1 y1 z1
  exact own_st st (k v T1 Lc X1 hQ)
/-- a constructor by its contract -/
theorem own_callN (X : Stand p l e R s m args below meth c T locs cells slots) (hx : p.tables.exec = Jvm.exec) (hZ : Z.Warmed39 s.vm) {own : String} {index : Nat} {y : MethodName} {bytes : ByteArray} {maxL : Nat} (hown : s.vm.findClass own = some m.cls) (hy1 : y.name = "<init>")
    (w1 : (Jvm.Cond.methodLink own index y).before a0 Z = true) (w2 : (Jvm.Cond.instanceMethod y).before a0 Z = true) (w3 : (Jvm.Cond.initialized y.cls).before a0 Z = true) (w4 : (Jvm.Cond.code y bytes maxL none).before a0 Z = true) (hy : y.cls ≠ "java/lang/invoke/MethodHandle" ∧ y.cls ≠ "java/lang/invoke/VarHandle")
    {rm : Room} {Q' : Option Value → Heap → List Loc → Prop} {a : Addr} {argsL rest stk : List Value} {pc W : Nat} {Ls : Array Slot}
    (hM : MetFree l y (head1 [Jvm.Cond.code y bytes maxL none] rm) (fun a' U => a' = (.ref a :: argsL).toArray ∧ Z.Warmed39 U.vm ∧ U.heap = h) (fun _ _ _ _ _ => True) (fun _ U o U' => ∃ v L, o = .returned v ∧ Q' v U'.heap L ∧ FrameEnd U o U' L rm.cells rm.slots))
    (eT : T.heap = h) (hsize : Ls.size = c.maxLocals) (hlen : ∀ sig, parseMethodDescriptor y.desc = some sig → argsL.length = sig.parameters.length) (hst : stk = argsL.reverse ++ .ref a :: rest) (hW : (rest.map fun v => v.category).sum ≤ W) (hd : decode c.code pc = .ok (.invokespecial index, 3))
    (hf : rm.frames + 1 ≤ R.frames) (hl : W + (maxL + 11) + rm.locals ≤ R.locals) (hc : cells + rm.cells ≤ R.cells) (hs : slots + rm.slots ≤ R.slots)
    (k : ∀ (v : Option Value) (T' : State) (L : List Loc), Stand p l e R s m args below meth c T' (locs ++ L) (cells + rm.cells) (slots + rm.slots) → Q' v T'.heap L → Go p e below s kc ks Q T' (mkF m (pc + 3) Ls (v.toList ++ rest))) :
    Go p e below s kc ks Q T (mkF m pc Ls stk) := by
  subst hst
  obtain ⟨v, _, ⟨T1, L1, k1, n1⟩, -, X1, ⟨Lc, hQ, l1, y1, z1⟩, st⟩ := X.specialBack hx (y := y) hy1 hown (mvT hZ w1) (mvT hZ w2) (mvT hZ w4) hy (backOf (W := W) hM hZ w4 w3 hf hl) (g := mkF m pc Ls (argsL.reverse ++ .ref a :: rest)) rfl hsize (Steps.refl _) (a := a) (argsL := argsL) (rest := rest) hlen rfl (by show 2 * 0 + _ ≤ _; omega) hd (fun _ _ => ⟨rfl, eT, hc, hs⟩)
  dsimp only [Pt.U, Pt.locs, Pt.cells, Pt.slots] at X1 l1 y1 z1 st hQ
  subst l1 y1 z1
  exact own_tr st (k v T1 Lc X1 hQ)
/-- an instance method by the contract of the body that the receiver's class selects -/
theorem own_callV (X : Stand p l e R s m args below meth c T locs cells slots) (hx : p.tables.exec = Jvm.exec) (hZ : Z.Warmed39 s.vm) {own C : String} {index : Nat} {y z : MethodName} {bytes : ByteArray} {maxL : Nat} {ret : Option FieldType} (hown : s.vm.findClass own = some m.cls)
    (w1 : (Jvm.Cond.methodLink own index y).before a0 Z = true) (w2 : (Jvm.Cond.declares y).before a0 Z = true) (hnf : NotFace s y) (w3 : (Jvm.Cond.selects C y z).before a0 Z = true) (w4 : (Jvm.Cond.instanceMethod z).before a0 Z = true) (w5 : (Jvm.Cond.initialized z.cls).before a0 Z = true) (w6 : (Jvm.Cond.code z bytes maxL ret).before a0 Z = true) (hy : y.cls ≠ "java/lang/invoke/MethodHandle" ∧ y.cls ≠ "java/lang/invoke/VarHandle")
    {rm : Room} {Q' : Option Value → Heap → List Loc → Prop} {a : Addr} {argsL rest stk : List Value} {pc W : Nat} {Ls : Array Slot}
    (hM : MetFree l z (head1 [Jvm.Cond.code z bytes maxL ret] rm) (fun a' U => a' = (.ref a :: argsL).toArray ∧ Z.Warmed39 U.vm ∧ U.heap = h) (fun _ _ _ _ _ => True) (fun _ U o U' => ∃ v L, o = .returned v ∧ Q' v U'.heap L ∧ FrameEnd U o U' L rm.cells rm.slots))
    (eT : T.heap = h) (E : Exa Z h a C) (hsize : Ls.size = c.maxLocals) (hlen : ∀ sig, parseMethodDescriptor y.desc = some sig → argsL.length = sig.parameters.length) (hst : stk = argsL.reverse ++ .ref a :: rest) (hW : (rest.map fun v => v.category).sum ≤ W) (hd : decode c.code pc = .ok (.invokevirtual index, 3))
    (hf : rm.frames + 1 ≤ R.frames) (hl : W + (maxL + 11) + rm.locals ≤ R.locals) (hc : cells + rm.cells ≤ R.cells) (hs : slots + rm.slots ≤ R.slots)
    (k : ∀ (v : Option Value) (T' : State) (L : List Loc), Stand p l e R s m args below meth c T' (locs ++ L) (cells + rm.cells) (slots + rm.slots) → Q' v T'.heap L → Go p e below s kc ks Q T' (mkF m (pc + 3) Ls (v.toList ++ rest))) :
    Go p e below s kc ks Q T (mkF m pc Ls stk) := by
  subst hst
  obtain ⟨cq, kq, qa, qb, qc⟩ := isOf hZ eT E
  obtain ⟨v, _, ⟨T1, L1, k1, n1⟩, -, X1, ⟨Lc, hQ, l1, y1, z1⟩, st⟩ := X.virtualBack hx (y := y) (z := z) hown (mvT hZ w1) (mvT hZ w2) hnf (mvT hZ w3) (mvT hZ w4) hy (backOf (W := W) hM hZ w6 w5 hf hl) qa qc (g := mkF m pc Ls (argsL.reverse ++ .ref a :: rest)) rfl hsize (Steps.refl _) (argsL := argsL) (rest := rest) hlen rfl (by show 2 * 0 + _ ≤ _; omega) hd (fun _ _ => ⟨rfl, eT, hc, hs⟩)
  dsimp only [Pt.U, Pt.locs, Pt.cells, Pt.slots] at X1 l1 y1 z1 st hQ
  subst l1 y1 z1
  exact own_tr st (k v T1 Lc X1 hQ)
/-- the branches, by the integers' worth -/
theorem own_tlt {x y : Int32} (h : x.toInt < y.toInt) : if_icmp.holds .lt x y = true ∧ if_icmp.holds .ge x y = false ∧ if_icmp.holds .gt y x = true ∧ if_icmp.holds .le y x = false := tlt (Int32.lt_iff_toInt_lt.mpr h)
theorem own_flt {x y : Int32} (h : ¬ x.toInt < y.toInt) : if_icmp.holds .lt x y = false ∧ if_icmp.holds .ge x y = true ∧ if_icmp.holds .gt y x = false ∧ if_icmp.holds .le y x = true := flt fun q => h (Int32.lt_iff_toInt_lt.mp q)
theorem own_teq {x y : Int32} (h : x.toInt = y.toInt) : if_icmp.holds .eq x y = true ∧ if_icmp.holds .ne x y = false := teq (Int32.toInt_inj.mp h)
theorem own_feq {x y : Int32} (h : ¬ x.toInt = y.toInt) : if_icmp.holds .eq x y = false ∧ if_icmp.holds .ne x y = true := feq fun q => h (congrArg _ q)
theorem own_tltL {x y : Int64} (h : x.toInt < y.toInt) : ifCond.holds .lt (lcmpW x y) = true ∧ ifCond.holds .ge (lcmpW x y) = false := by
  have q := tlt ((lw_lt x y).mpr (Int64.lt_iff_toInt_lt.mpr h))
  exact ⟨(if0 _ _).trans q.1, (if0 _ _).trans q.2.1⟩
theorem own_fltL {x y : Int64} (h : ¬ x.toInt < y.toInt) : ifCond.holds .lt (lcmpW x y) = false ∧ ifCond.holds .ge (lcmpW x y) = true := by
  have q := flt fun r => h (Int64.lt_iff_toInt_lt.mp ((lw_lt x y).mp r))
  exact ⟨(if0 _ _).trans q.1, (if0 _ _).trans q.2.1⟩
theorem own_tgtL {x y : Int64} (h : y.toInt < x.toInt) : ifCond.holds .gt (lcmpW x y) = true ∧ ifCond.holds .le (lcmpW x y) = false := by
  have q := tlt ((lw_gt x y).mpr (Int64.lt_iff_toInt_lt.mpr h))
  exact ⟨(if0 _ _).trans q.2.2.1, (if0 _ _).trans q.2.2.2⟩
theorem own_fgtL {x y : Int64} (h : ¬ y.toInt < x.toInt) : ifCond.holds .gt (lcmpW x y) = false ∧ ifCond.holds .le (lcmpW x y) = true := by
  have q := flt fun r => h (Int64.lt_iff_toInt_lt.mp ((lw_gt x y).mp r))
  exact ⟨(if0 _ _).trans q.2.2.1, (if0 _ _).trans q.2.2.2⟩
theorem own_teqL {x y : Int64} (h : x.toInt = y.toInt) : ifCond.holds .eq (lcmpW x y) = true ∧ ifCond.holds .ne (lcmpW x y) = false := by
  have q := teq ((lw_eq x y).mpr (Int64.toInt_inj.mp h))
  exact ⟨(if0 _ _).trans q.1, (if0 _ _).trans q.2⟩
theorem own_feqL {x y : Int64} (h : ¬ x.toInt = y.toInt) : ifCond.holds .eq (lcmpW x y) = false ∧ ifCond.holds .ne (lcmpW x y) = true := by
  have q := feq fun r => h (congrArg _ ((lw_eq x y).mp r))
  exact ⟨(if0 _ _).trans q.1, (if0 _ _).trans q.2⟩
/-- an array by its length and what each place holds -/
def own_A (Z : State) (h : Heap) (a : Addr) (ty : FieldType) (n : Int32) (f : Nat → Value) : Prop := ∃ cl : Cell, Arr Z h a cl ty ∧ cl.slots.size = n.toNatClampNeg ∧ 0 ≤ n.toInt ∧ (∀ i, i < cl.slots.size → cl.slots[i]? = some (f i)) ∧ ∀ i, i < cl.slots.size → fits ty (f i) = true
theorem own_cl {n : Int32} : n.toNatClampNeg = n.toInt.toNat := rfl
theorem own_nneg {n : Int32} (h : 0 ≤ n.toInt) : ¬ n < 0 := fun q => by
  have q := Int32.lt_iff_toInt_lt.mp q
  have : (0 : Int32).toInt = 0 := rfl
  omega
theorem own_in {cl : Cell} {n j : Int32} (hs : cl.slots.size = n.toNatClampNeg) (h0 : 0 ≤ j.toInt) (h1 : j.toInt < n.toInt) : ¬ (j < 0 ∨ cl.slots.size ≤ j.toNatClampNeg) := by
  rintro (q | q)
  · exact own_nneg h0 q
  · rw [hs, own_cl, own_cl] at q; omega
theorem own_ilt {cl : Cell} {n j : Int32} (hs : cl.slots.size = n.toNatClampNeg) (h0 : 0 ≤ j.toInt) (h1 : j.toInt < n.toInt) : j.toInt.toNat < cl.slots.size := by rw [hs, own_cl]; omega
section OwnArr
variable {h h' : Heap} {a b : Addr} {ty : FieldType} {n : Int32} {f g : Nat → Value} {sl : Nat} {v : Value} {ws : List Addr}
theorem own_A.lt (F : own_A Z h a ty n f) : a < h.size := by obtain ⟨c, A, -⟩ := F; exact A.lt
theorem own_A.ext (F : own_A Z h a ty n f) (E : Ext h h') : own_A Z h' a ty n f := by obtain ⟨c, A, r⟩ := F; exact ⟨c, A.ext E, r⟩
theorem own_A.other (F : own_A Z h b ty n f) (W : Wr h h' a sl v) (q : b ≠ a) : own_A Z h' b ty n f := by obtain ⟨c, A, r⟩ := F; exact ⟨c, A.other W q, r⟩
theorem own_A.keep (F : own_A Z h a ty n f) (K : Keep h h' ws) (q : a ∉ ws) : own_A Z h' a ty n f := by obtain ⟨c, A, r⟩ := F; exact ⟨c, ⟨K.2.1 a c A.1 q, A.2⟩, r⟩
theorem own_A.congr (F : own_A Z h a ty n f) (q : ∀ i : Nat, (i : Int) < n.toInt → f i = g i) : own_A Z h a ty n g := by
  obtain ⟨c, A, hs, h0, H, G⟩ := F
  have t : ∀ i, i < c.slots.size → f i = g i := fun i hi => q i (by rw [hs, own_cl] at hi; omega)
  exact ⟨c, A, hs, h0, fun i hi => by rw [← t i hi]; exact H i hi, fun i hi => by rw [← t i hi]; exact G i hi⟩
theorem own_A.new {k : ClassId} (A : Arr Z h a (newA k ty n) ty) (q : 0 ≤ n.toInt) (hd : fits ty (defaultValue ty) = true) : own_A Z h a ty n (fun _ => defaultValue ty) :=
  ⟨_, A, sz_new _ _ _, q, fun i hi => by
    rw [sz_new] at hi
    simp [newA, hi], fun _ _ => hd⟩
theorem own_A.setN {cl : Cell} (A : Arr Z h a cl ty) (hs : cl.slots.size = n.toNatClampNeg) (h0 : 0 ≤ n.toInt) (H : ∀ i, i < cl.slots.size → cl.slots[i]? = some (f i)) (G : ∀ i, i < cl.slots.size → fits ty (f i) = true) (hv : fits ty v = true) {j : Nat} (W : Wr h h' a j v) (hj : j < cl.slots.size) :
    own_A Z h' a ty n (fun i => if i = j then v else f i) := by
  refine ⟨_, A.same W, by rw [sz_set]; exact hs, h0, fun i hi => ?_, fun i hi => ?_⟩
  · rw [sz_set] at hi
    by_cases e : i = j
    · subst e; simp [Cell.setSlot, hj]
    · have : j ≠ i := fun q => e q.symm
      simp [Cell.setSlot, e, this, H i hi]
  · rw [sz_set] at hi
    by_cases e : i = j
    · simp [e, hv]
    · simp [e, G i hi]
theorem own_A.set {cl : Cell} (A : Arr Z h a cl ty) (hs : cl.slots.size = n.toNatClampNeg) (h0 : 0 ≤ n.toInt) (H : ∀ i, i < cl.slots.size → cl.slots[i]? = some (f i)) (G : ∀ i, i < cl.slots.size → fits ty (f i) = true) (hv : fits ty v = true) {j : Int32} (W : Wr h h' a j.toNatClampNeg v) (hj : j.toInt.toNat < cl.slots.size) :
    own_A Z h' a ty n (fun i => if i = j.toInt.toNat then v else f i) := own_A.setN A hs h0 H G hv (j := j.toInt.toNat) W hj
end OwnArr
theorem own_A.int {h : Heap} {a : Addr} {n j : Int32} {f : Nat → Value} (F : own_A Z h a .int n f) (h0 : 0 ≤ j.toInt) (h1 : j.toInt < n.toInt) : ∃ z : Int32, f j.toInt.toNat = .int z := by
  obtain ⟨c, A, hs, hn, H, G⟩ := F
  exact fit_I (G _ (own_ilt hs h0 h1)) (Or.inl rfl)
theorem own_newarr (X : Stand p l e R s m args below meth c T locs cells slots) (hx : p.tables.exec = Jvm.exec) (hZ : Z.Warmed39 s.vm) {aty : ArrayType} (w : (Jvm.Cond.arrayClass (newarray.typeOf aty)).before a0 Z = true) (eT : T.heap = h) {pc : Nat} {Ls : Array Slot} (hd : decode c.code pc = .ok (.newarray aty, 2)) {n : Int32} {rest : List Value}
    (hn : 0 ≤ n.toInt) {cap : Nat} (hcap : n.toInt ≤ cap) (hb : cap * 8 ≤ 536870912) (hc : cells + 1 ≤ R.cells) (hl : slots + cap ≤ R.slots) (hf : fits (newarray.typeOf aty) (defaultValue (newarray.typeOf aty)) = true)
    (k : ∀ (T' : State) (h' : Heap) (a : Addr), a = h.size → Stand p l e R s m args below meth c T' locs (cells + 1) (slots + cap) → T'.heap = h' → Ext h h' → own_A Z h' a (newarray.typeOf aty) n (fun _ => defaultValue (newarray.typeOf aty)) → Go p e below s kc ks Q T' (mkF m (pc + 2) Ls (.ref a :: rest))) :
    Go p e below s kc ks Q T (mkF m pc Ls (.int n :: rest)) := by
  obtain ⟨T', h', cA, X', e', E', A', st⟩ := newP X hx hZ w eT (g := mkF m pc Ls (.int n :: rest)) rfl hd rfl (own_nneg hn) (cap := cap) (by rw [own_cl]; omega) hb hc hl
  exact own_st st (k T' h' _ rfl X' e' E' (own_A.new A' hn hf))
theorem own_alen (X : Stand p l e R s m args below meth c T locs cells slots) (hx : p.tables.exec = Jvm.exec) (hZ : Z.Warmed39 s.vm) (eT : T.heap = h) {a : Addr} {ty : FieldType} {n : Int32} {f : Nat → Value} (A : own_A Z h a ty n f) {pc : Nat} {Ls : Array Slot} {rest : List Value} (hd : decode c.code pc = .ok (.arraylength, 1))
    (k : Go p e below s kc ks Q T (mkF m (pc + 1) Ls (.int n :: rest))) : Go p e below s kc ks Q T (mkF m pc Ls (.ref a :: rest)) := by
  obtain ⟨cl, Ar, hs, h0, -, -⟩ := A
  rw [← len_of hs (own_nneg h0)] at k
  exact own_st (fun t q => X.arraylength hx (by rw [eT]; exact Ar.1) (State.isArrayOf_alike hZ.alike Ar.2.1) (g := mkF m pc Ls (.ref a :: rest)) rfl rfl hd t q) k
theorem own_iaload (X : Stand p l e R s m args below meth c T locs cells slots) (hx : p.tables.exec = Jvm.exec) (hZ : Z.Warmed39 s.vm) (eT : T.heap = h) {a : Addr} {n j : Int32} {f : Nat → Value} {v : Value} (A : own_A Z h a .int n f) (h0 : 0 ≤ j.toInt) (h1 : j.toInt < n.toInt) (hv : f j.toInt.toNat = v) {pc : Nat} {Ls : Array Slot} {rest : List Value} (hd : decode c.code pc = .ok (.iaload, 1))
    (k : Go p e below s kc ks Q T (mkF m (pc + 1) Ls (v :: rest))) : Go p e below s kc ks Q T (mkF m pc Ls (.int j :: .ref a :: rest)) := by
  obtain ⟨cl, Ar, hs, hn, H, -⟩ := A
  exact own_st (fun t q => X.iaload hx (j := j) (v := v) (by rw [eT]; exact Ar.1) (State.isArrayOf_alike hZ.alike Ar.2.1) Ar.2.2 (own_in hs h0 h1) (hv ▸ H _ (own_ilt hs h0 h1)) (g := mkF m pc Ls (.int j :: .ref a :: rest)) rfl rfl hd t q) k
theorem own_laload (X : Stand p l e R s m args below meth c T locs cells slots) (hx : p.tables.exec = Jvm.exec) (hZ : Z.Warmed39 s.vm) (eT : T.heap = h) {a : Addr} {n j : Int32} {f : Nat → Value} {v : Value} (A : own_A Z h a .long n f) (h0 : 0 ≤ j.toInt) (h1 : j.toInt < n.toInt) (hv : f j.toInt.toNat = v) {pc : Nat} {Ls : Array Slot} {rest : List Value} (hd : decode c.code pc = .ok (.laload, 1))
    (k : Go p e below s kc ks Q T (mkF m (pc + 1) Ls (v :: rest))) : Go p e below s kc ks Q T (mkF m pc Ls (.int j :: .ref a :: rest)) := by
  obtain ⟨cl, Ar, hs, hn, H, -⟩ := A
  exact own_st (fun t q => X.laload hx (j := j) (v := v) (by rw [eT]; exact Ar.1) (State.isArrayOf_alike hZ.alike Ar.2.1) Ar.2.2 (own_in hs h0 h1) (hv ▸ H _ (own_ilt hs h0 h1)) (g := mkF m pc Ls (.int j :: .ref a :: rest)) rfl rfl hd t q) k
theorem own_caload (X : Stand p l e R s m args below meth c T locs cells slots) (hx : p.tables.exec = Jvm.exec) (hZ : Z.Warmed39 s.vm) (eT : T.heap = h) {a : Addr} {n j : Int32} {f : Nat → Value} {v : Value} (A : own_A Z h a .char n f) (h0 : 0 ≤ j.toInt) (h1 : j.toInt < n.toInt) (hv : f j.toInt.toNat = v) {pc : Nat} {Ls : Array Slot} {rest : List Value} (hd : decode c.code pc = .ok (.caload, 1))
    (k : Go p e below s kc ks Q T (mkF m (pc + 1) Ls (v :: rest))) : Go p e below s kc ks Q T (mkF m pc Ls (.int j :: .ref a :: rest)) := by
  obtain ⟨cl, Ar, hs, hn, H, -⟩ := A
  exact own_st (fun t q => X.caload hx (j := j) (v := v) (by rw [eT]; exact Ar.1) (State.isArrayOf_alike hZ.alike Ar.2.1) Ar.2.2 (own_in hs h0 h1) (hv ▸ H _ (own_ilt hs h0 h1)) (g := mkF m pc Ls (.int j :: .ref a :: rest)) rfl rfl hd t q) k
theorem own_baload (X : Stand p l e R s m args below meth c T locs cells slots) (hx : p.tables.exec = Jvm.exec) (hZ : Z.Warmed39 s.vm) (eT : T.heap = h) {a : Addr} {n j : Int32} {f : Nat → Value} {v : Value} (A : own_A Z h a .byte n f) (h0 : 0 ≤ j.toInt) (h1 : j.toInt < n.toInt) (hv : f j.toInt.toNat = v) {pc : Nat} {Ls : Array Slot} {rest : List Value} (hd : decode c.code pc = .ok (.baload, 1))
    (k : Go p e below s kc ks Q T (mkF m (pc + 1) Ls (v :: rest))) : Go p e below s kc ks Q T (mkF m pc Ls (.int j :: .ref a :: rest)) := by
  obtain ⟨cl, Ar, hs, hn, H, -⟩ := A
  exact own_st (fun t q => X.baloadBytes hx (j := j) (v := v) (by rw [eT]; exact Ar.1) (State.isArrayOf_alike hZ.alike Ar.2.1) Ar.2.2 (own_in hs h0 h1) (hv ▸ H _ (own_ilt hs h0 h1)) (g := mkF m pc Ls (.int j :: .ref a :: rest)) rfl rfl hd t q) k
theorem own_zaload (X : Stand p l e R s m args below meth c T locs cells slots) (hx : p.tables.exec = Jvm.exec) (hZ : Z.Warmed39 s.vm) (eT : T.heap = h) {a : Addr} {n j : Int32} {f : Nat → Value} {v : Value} (A : own_A Z h a .boolean n f) (h0 : 0 ≤ j.toInt) (h1 : j.toInt < n.toInt) (hv : f j.toInt.toNat = v) {pc : Nat} {Ls : Array Slot} {rest : List Value} (hd : decode c.code pc = .ok (.baload, 1))
    (k : Go p e below s kc ks Q T (mkF m (pc + 1) Ls (v :: rest))) : Go p e below s kc ks Q T (mkF m pc Ls (.int j :: .ref a :: rest)) := by
  obtain ⟨cl, Ar, hs, hn, H, -⟩ := A
  exact own_st (fun t q => X.baloadBooleans hx (j := j) (v := v) (by rw [eT]; exact Ar.1) (State.isArrayOf_alike hZ.alike Ar.2.1) Ar.2.2 (own_in hs h0 h1) (hv ▸ H _ (own_ilt hs h0 h1)) (g := mkF m pc Ls (.int j :: .ref a :: rest)) rfl rfl hd t q) k
theorem own_aaload (X : Stand p l e R s m args below meth c T locs cells slots) (hx : p.tables.exec = Jvm.exec) (hZ : Z.Warmed39 s.vm) (eT : T.heap = h) {a : Addr} {ty : FieldType} {n j : Int32} {f : Nat → Value} {v : Value} (A : own_A Z h a ty n f) (hty : ty.isReference = true) (h0 : 0 ≤ j.toInt) (h1 : j.toInt < n.toInt) (hv : f j.toInt.toNat = v) {pc : Nat} {Ls : Array Slot} {rest : List Value} (hd : decode c.code pc = .ok (.aaload, 1))
    (k : Go p e below s kc ks Q T (mkF m (pc + 1) Ls (v :: rest))) : Go p e below s kc ks Q T (mkF m pc Ls (.int j :: .ref a :: rest)) := by
  obtain ⟨cl, Ar, hs, hn, H, -⟩ := A
  exact own_st (fun t q => X.aaload hx (j := j) (v := v) (by rw [eT]; exact Ar.1) (State.isArrayOf_alike hZ.alike Ar.2.1) hty Ar.2.2 (own_in hs h0 h1) (hv ▸ H _ (own_ilt hs h0 h1)) (g := mkF m pc Ls (.int j :: .ref a :: rest)) rfl rfl hd t q) k
theorem own_iastore (X : Stand p l e R s m args below meth c T locs cells slots) (hx : p.tables.exec = Jvm.exec) (hZ : Z.Warmed39 s.vm) (eT : T.heap = h) {a : Addr} {n j : Int32} {f : Nat → Value} {x : Int32} (A : own_A Z h a .int n f) (h0 : 0 ≤ j.toInt) (h1 : j.toInt < n.toInt) {pc : Nat} {Ls : Array Slot} {rest : List Value} (hd : decode c.code pc = .ok (.iastore, 1))
    (k : ∀ (T' : State) (h' : Heap), Stand p l e R s m args below meth c T' (locs ++ [⟨a, j.toNatClampNeg⟩]) cells slots → T'.heap = h' → Wr h h' a j.toNatClampNeg (.int x) → own_A Z h' a .int n (fun i => if i = j.toInt.toNat then (.int x) else f i) → Go p e below s kc ks Q T' (mkF m (pc + 1) Ls rest)) : Go p e below s kc ks Q T (mkF m pc Ls (.int x :: .int j :: .ref a :: rest)) := by
  obtain ⟨cl, Ar, hs, hn, H, G⟩ := A
  obtain ⟨T', h', X', e', W', st⟩ := stI X hx hZ eT Ar (j := j) (x := x) (own_in hs h0 h1) (g := mkF m pc Ls (.int x :: .int j :: .ref a :: rest)) rfl rfl hd
  exact own_st st (k T' h' X' e' W' (own_A.set Ar hs hn H G rfl W' (own_ilt hs h0 h1)))
theorem own_lastore (X : Stand p l e R s m args below meth c T locs cells slots) (hx : p.tables.exec = Jvm.exec) (hZ : Z.Warmed39 s.vm) (eT : T.heap = h) {a : Addr} {n j : Int32} {f : Nat → Value} {x : Int64} (A : own_A Z h a .long n f) (h0 : 0 ≤ j.toInt) (h1 : j.toInt < n.toInt) {pc : Nat} {Ls : Array Slot} {rest : List Value} (hd : decode c.code pc = .ok (.lastore, 1))
    (k : ∀ (T' : State) (h' : Heap), Stand p l e R s m args below meth c T' (locs ++ [⟨a, j.toNatClampNeg⟩]) cells slots → T'.heap = h' → Wr h h' a j.toNatClampNeg (.long x) → own_A Z h' a .long n (fun i => if i = j.toInt.toNat then (.long x) else f i) → Go p e below s kc ks Q T' (mkF m (pc + 1) Ls rest)) : Go p e below s kc ks Q T (mkF m pc Ls (.long x :: .int j :: .ref a :: rest)) := by
  obtain ⟨cl, Ar, hs, hn, H, G⟩ := A
  obtain ⟨T', h', X', e', W', st⟩ := stJ X hx hZ eT Ar (j := j) (x := x) (own_in hs h0 h1) (g := mkF m pc Ls (.long x :: .int j :: .ref a :: rest)) rfl rfl hd
  exact own_st st (k T' h' X' e' W' (own_A.set Ar hs hn H G rfl W' (own_ilt hs h0 h1)))
theorem own_bastore (X : Stand p l e R s m args below meth c T locs cells slots) (hx : p.tables.exec = Jvm.exec) (hZ : Z.Warmed39 s.vm) (eT : T.heap = h) {a : Addr} {n j : Int32} {f : Nat → Value} {x : Int32} (A : own_A Z h a .byte n f) (h0 : 0 ≤ j.toInt) (h1 : j.toInt < n.toInt) {pc : Nat} {Ls : Array Slot} {rest : List Value} (hd : decode c.code pc = .ok (.bastore, 1))
    (k : ∀ (T' : State) (h' : Heap), Stand p l e R s m args below meth c T' (locs ++ [⟨a, j.toNatClampNeg⟩]) cells slots → T'.heap = h' → Wr h h' a j.toNatClampNeg (.int (nar .byte x)) → own_A Z h' a .byte n (fun i => if i = j.toInt.toNat then (.int (nar .byte x)) else f i) → Go p e below s kc ks Q T' (mkF m (pc + 1) Ls rest)) : Go p e below s kc ks Q T (mkF m pc Ls (.int x :: .int j :: .ref a :: rest)) := by
  obtain ⟨cl, Ar, hs, hn, H, G⟩ := A
  obtain ⟨T', h', X', e', W', st⟩ := stB X hx hZ eT Ar (j := j) (x := x) (own_in hs h0 h1) (g := mkF m pc Ls (.int x :: .int j :: .ref a :: rest)) rfl rfl hd
  exact own_st st (k T' h' X' e' W' (own_A.set Ar hs hn H G (fits_nar_byte x) W' (own_ilt hs h0 h1)))
theorem own_castore (X : Stand p l e R s m args below meth c T locs cells slots) (hx : p.tables.exec = Jvm.exec) (hZ : Z.Warmed39 s.vm) (eT : T.heap = h) {a : Addr} {n j : Int32} {f : Nat → Value} {x : Int32} (A : own_A Z h a .char n f) (h0 : 0 ≤ j.toInt) (h1 : j.toInt < n.toInt) {pc : Nat} {Ls : Array Slot} {rest : List Value} (hd : decode c.code pc = .ok (.castore, 1))
    (k : ∀ (T' : State) (h' : Heap), Stand p l e R s m args below meth c T' (locs ++ [⟨a, j.toNatClampNeg⟩]) cells slots → T'.heap = h' → Wr h h' a j.toNatClampNeg (.int (nar .char x)) → own_A Z h' a .char n (fun i => if i = j.toInt.toNat then (.int (nar .char x)) else f i) → Go p e below s kc ks Q T' (mkF m (pc + 1) Ls rest)) : Go p e below s kc ks Q T (mkF m pc Ls (.int x :: .int j :: .ref a :: rest)) := by
  obtain ⟨cl, Ar, hs, hn, H, G⟩ := A
  obtain ⟨T', h', X', e', W', st⟩ := stC X hx hZ eT Ar (j := j) (x := x) (own_in hs h0 h1) (g := mkF m pc Ls (.int x :: .int j :: .ref a :: rest)) rfl rfl hd
  exact own_st st (k T' h' X' e' W' (own_A.set Ar hs hn H G (fits_nar_char x) W' (own_ilt hs h0 h1)))
theorem own_zastore (X : Stand p l e R s m args below meth c T locs cells slots) (hx : p.tables.exec = Jvm.exec) (hZ : Z.Warmed39 s.vm) (eT : T.heap = h) {a : Addr} {n j : Int32} {f : Nat → Value} {x : Int32} (A : own_A Z h a .boolean n f) (h0 : 0 ≤ j.toInt) (h1 : j.toInt < n.toInt) {pc : Nat} {Ls : Array Slot} {rest : List Value} (hd : decode c.code pc = .ok (.bastore, 1))
    (k : ∀ (T' : State) (h' : Heap), Stand p l e R s m args below meth c T' (locs ++ [⟨a, j.toNatClampNeg⟩]) cells slots → T'.heap = h' → Wr h h' a j.toNatClampNeg (.int (nar .boolean x)) → own_A Z h' a .boolean n (fun i => if i = j.toInt.toNat then (.int (nar .boolean x)) else f i) → Go p e below s kc ks Q T' (mkF m (pc + 1) Ls rest)) : Go p e below s kc ks Q T (mkF m pc Ls (.int x :: .int j :: .ref a :: rest)) := by
  obtain ⟨cl, Ar, hs, hn, H, G⟩ := A
  obtain ⟨T', h', X', e', W', st⟩ := stZ X hx hZ eT Ar (j := j) (x := x) (own_in hs h0 h1) (g := mkF m pc Ls (.int x :: .int j :: .ref a :: rest)) rfl rfl hd
  exact own_st st (k T' h' X' e' W' (own_A.set Ar hs hn H G (fits_nar_bool x) W' (own_ilt hs h0 h1)))
theorem own_eqv {args : Array Value} {s : State} {t : Term} {k : Int32} (h : (Jvm.Cond.eq t (.int k)).value args s none s [] = some true) : t.eval args s none [] s = some (.int k) := by
  simp only [Cond.value, Term.eval] at h
  cases e : t.eval args s none [] s with
  | none => simp [e] at h
  | some v => cases v <;> simp [e] at h; exact congrArg _ (congrArg _ h)
theorem own_fldeq {args : Array Value} {s : State} {t : Term} {x : Addr} {C n d : String} {k : Int32} (ht : t.eval args s none [] s = some (.ref x)) (h : (Jvm.Cond.eq (.field t C n d) (.int k)).value args s none s [] = some true) : Fld s s.heap x C n d (.int k) :=
  Fld.start ((fld_at ht).symm.trans (own_eqv h))
/-- the array at a is one of C's -/
def own_O (Z : State) (h : Heap) (a : Addr) (C : String) : Prop := ∃ cl : Cell, h[a]? = some cl ∧ Ovr Z cl.cls C
theorem own_O.ext {h h' : Heap} {a : Addr} {C : String} (F : own_O Z h a C) (E : Ext h h') : own_O Z h' a C := by obtain ⟨c, A, r⟩ := F; exact ⟨c, E.2 _ _ A, r⟩
theorem own_O.wr {h h' : Heap} {a b : Addr} {C : String} {sl : Nat} {v : Value} (F : own_O Z h a C) (W : Wr h h' b sl v) : own_O Z h' a C := by
  obtain ⟨c, A, r⟩ := F
  obtain ⟨c', e1, e2, -⟩ := wr_at W A
  exact ⟨c', e1, by rw [e2]; exact r⟩
theorem own_newarrR (X : Stand p l e R s m args below meth c T locs cells slots) (hx : p.tables.exec = Jvm.exec) (hZ : Z.Warmed39 s.vm) {own C : String} {index : Nat} (hown : s.vm.findClass own = some m.cls) (w1 : (Jvm.Cond.classLink own index C).before a0 Z = true) (w2 : (Jvm.Cond.arrayOver (.object C)).before a0 Z = true) (eT : T.heap = h) {pc : Nat} {Ls : Array Slot} (hd : decode c.code pc = .ok (.anewarray index, 3)) {n : Int32} {rest : List Value}
    (hn : 0 ≤ n.toInt) {cap : Nat} (hcap : n.toInt ≤ cap) (hb : cap * 8 ≤ 536870912) (hc : cells + 1 ≤ R.cells) (hl : slots + cap ≤ R.slots)
    (k : ∀ (T' : State) (h' : Heap) (a : Addr), a = h.size → Stand p l e R s m args below meth c T' locs (cells + 1) (slots + cap) → T'.heap = h' → Ext h h' → own_A Z h' a (.object C) n (fun _ => .null) → own_O Z h' a C → Go p e below s kc ks Q T' (mkF m (pc + 3) Ls (.ref a :: rest))) :
    Go p e below s kc ks Q T (mkF m pc Ls (.int n :: rest)) := by
  obtain ⟨T', h', cA, X', e', E', A', O', st⟩ := newR X hx hZ hown w1 w2 eT (g := mkF m pc Ls (.int n :: rest)) rfl hd rfl (own_nneg hn) (cap := cap) (by rw [own_cl]; omega) hb hc hl
  exact own_st st (k T' h' _ rfl X' e' E' (own_A.new A' hn rfl) ⟨_, A'.1, O'⟩)
theorem own_aastore (X : Stand p l e R s m args below meth c T locs cells slots) (hx : p.tables.exec = Jvm.exec) (hZ : Z.Warmed39 s.vm) (eT : T.heap = h) {a y : Addr} {n j : Int32} {f : Nat → Value} {C : String} (A : own_A Z h a (.object C) n f) (O : own_O Z h a C) (I : Ins Z h y C true) (h0 : 0 ≤ j.toInt) (h1 : j.toInt < n.toInt) {pc : Nat} {Ls : Array Slot} {rest : List Value} (hd : decode c.code pc = .ok (.aastore, 1))
    (k : ∀ (T' : State) (h' : Heap), Stand p l e R s m args below meth c T' (locs ++ [⟨a, j.toNatClampNeg⟩]) cells slots → T'.heap = h' → Wr h h' a j.toNatClampNeg (.ref y) → own_A Z h' a (.object C) n (fun i => if i = j.toInt.toNat then .ref y else f i) → Go p e below s kc ks Q T' (mkF m (pc + 1) Ls rest)) : Go p e below s kc ks Q T (mkF m pc Ls (.ref y :: .int j :: .ref a :: rest)) := by
  obtain ⟨cl, Ar, hs, hn, H, G⟩ := A
  obtain ⟨cl', o1, o2⟩ := O
  cases Ar.1.symm.trans o1
  obtain ⟨T', h', X', e', W', st⟩ := stR X hx hZ eT Ar (j := j) (v := .ref y) (own_in hs h0 h1) rfl (Sto.of Ar o2 I) (g := mkF m pc Ls (.ref y :: .int j :: .ref a :: rest)) rfl rfl hd
  exact own_st st (k T' h' X' e' W' (own_A.set Ar hs hn H G rfl W' (own_ilt hs h0 h1)))
theorem own_sk0 {h h' : Heap} {C n d : String} {v : Value} (F : Sta Z h C n d v) (K : Keep h h' []) : Sta Z h' C n d v := by
  obtain ⟨cf, i, k, f, st, cell, h1, h2, h3, h4, h5, r⟩ := F
  exact ⟨cf, i, k, f, st, cell, h1, h2, h3, h4, K.2.1 _ _ h5 nin0, r⟩
theorem own_sk1 {h h' : Heap} {a : Addr} {C n d D : String} {v : Value} (F : Sta Z h C n d v) (K : Keep h h' [a]) (E : Exa Z h a D) : Sta Z h' C n d v := by
  obtain ⟨cf, i, k, f, st, cell, h1, h2, h3, h4, h5, h6, h7⟩ := F
  obtain ⟨c2, k2, e1, e2, e3, e4, e5⟩ := E
  have ne : st ≠ a := fun q => by
    subst q
    cases h5.symm.trans e1
    rw [e4] at h6; cases h6
  exact ⟨cf, i, k, f, st, cell, h1, h2, h3, h4, K.2.1 _ _ h5 (ninS ne nin0), h6, h7⟩
/-- each of the first n places holds an object of class D -/
def own_IC (Z : State) (h : Heap) (D : String) (n : Nat) (f : Nat → Value) : Prop := ∀ i, i < n → ∃ b : Addr, f i = .ref b ∧ Exa Z h b D
theorem own_IC.ext {h h' : Heap} {D : String} {n : Nat} {f : Nat → Value} (F : own_IC Z h D n f) (E : Ext h h') : own_IC Z h' D n f := fun i hi => by obtain ⟨b, e1, e2⟩ := F i hi; exact ⟨b, e1, e2.ext E⟩
theorem own_IC.wr {h h' : Heap} {D : String} {n : Nat} {f : Nat → Value} {a : Addr} {sl : Nat} {v : Value} (F : own_IC Z h D n f) (W : Wr h h' a sl v) : own_IC Z h' D n f := fun i hi => by obtain ⟨b, e1, e2⟩ := F i hi; exact ⟨b, e1, Exa.wr W e2⟩
theorem own_IC.keep {h h' : Heap} {D : String} {n : Nat} {f : Nat → Value} {ws : List Addr} (F : own_IC Z h D n f) (K : Keep h h' ws) : own_IC Z h' D n f := fun i hi => by obtain ⟨b, e1, e2⟩ := F i hi; exact ⟨b, e1, e2.keep K⟩
/-- an object of class D is no K -/
theorem own_notIns {h : Heap} {b : Addr} {D K : String} {t : List String} {kk : Nat} (E : Exa Z h b D) (hw : ∀ w ∈ Cond.chainWords (D :: t), w.before a0 Z = true) (wi : (Jvm.Cond.instantiable K kk).before a0 Z = true) (hn : K ∉ D :: t) : Ins Z h b K false := by
  obtain ⟨cell, k, e1, e2, e3, e4, e5⟩ := E
  obtain ⟨cK, kK, i1, i2, i3, i4⟩ := Cond.instantiable_spec wi
  refine ⟨cell, cK, e1, i1, ?_⟩
  rw [Vm.notAssignable_of_chain e2 i1 i2 i3 (by simpa using (Bool.or_eq_false_iff.mp i4.1).1) hw hn]
  simp
theorem own_cache {s : State} {args : Array Value} {t : Term} {a : Addr} {K : String} {B : Jvm.Cond} (et : ∀ idx, t.eval args s none idx s = some (.ref a)) (hA : (Jvm.Cond.arrayOf t (.object K)).value args s none s [] = some true) (hL : (Jvm.Cond.eq (.length t) (.int 256)).value args s none s [] = some true)
    (h : (Jvm.Cond.all t (.and (.exactly (.elem t (.index 0)) K) B)).value args s none s [] = some true) : ∃ fc, own_A s s.heap a (.object K) 256 fc ∧ own_IC s s.heap K 256 fc := by
  obtain ⟨cl, A⟩ := Arr.start (et []) hA
  have ha := A.fin (Vm.Alike.refl _)
  have hl := own_eqv hL
  have hsz : cl.slots.size = 256 := by
    by_cases q : cl.slots.size < 2 ^ 31
    · rw [len_f (et []) ha q] at hl
      have e := congrArg Int32.toInt (Value.int.inj (Option.some.inj hl))
      rw [len_toInt q] at e
      have k : (256 : Int32).toInt = 256 := rfl
      omega
    · simp [Term.eval, et [], ha, q] at hl
  have hel : ∀ i, i < cl.slots.size → ∃ b : Addr, cl.slots[i]? = some (.ref b) ∧ Exa s s.heap b K := fun i hi => by
    have hj : ¬ i.toInt32 < 0 := fun z => (idx_in hi (by omega)) (Or.inl z)
    have hc : i.toInt32.toNatClampNeg = i := by
      rw [own_cl, len_toInt (by omega)]; rfl
    obtain ⟨u1, u2⟩ := and_e (Cond.all_elim (et []) ha h i hi)
    obtain ⟨b, eb⟩ := exa_v u1
    refine ⟨b, ?_, exa_at eb u1⟩
    have q := (elem_f (idx := [i]) (a := .index 0) (j := i.toInt32) (et _) (by have := idx_at (args := args) (s := s) (first := s) (o := none) hj; rwa [hc] at this) ha hj).symm.trans eb
    rwa [hc] at q
  refine ⟨fun i => (cl.slots[i]?).getD .null, ⟨cl, A, by rw [hsz]; rfl, by decide, fun i hi => ?_, fun i hi => ?_⟩, fun i hi => ?_⟩
  · obtain ⟨b, e, -⟩ := hel i hi; simp [e]
  · obtain ⟨b, e, -⟩ := hel i hi; simp [e, fits]
  · obtain ⟨b, e, E⟩ := hel i (by omega); exact ⟨b, by simp [e], E⟩
end OwnKit
theorem d1_0 : decode jdk_29_method_70_code 0 = .ok (.lload_n 0, 1) := by decide +kernel
theorem d1_1 : decode jdk_29_method_70_code 1 = .ok (.lload_n 2, 1) := by decide +kernel
theorem d1_2 : decode jdk_29_method_70_code 2 = .ok (.lcmp, 1) := by decide +kernel
theorem d1_3 : decode jdk_29_method_70_code 3 = .ok (.ifCond .gt 7, 3) := by decide +kernel
theorem d1_6 : decode jdk_29_method_70_code 6 = .ok (.lload_n 0, 1) := by decide +kernel
theorem d1_7 : decode jdk_29_method_70_code 7 = .ok (.goto 4, 3) := by decide +kernel
theorem d1_10 : decode jdk_29_method_70_code 10 = .ok (.lload_n 2, 1) := by decide +kernel
theorem d1_11 : decode jdk_29_method_70_code 11 = .ok (.lreturn, 1) := by decide +kernel
theorem pf_1 : plainFor (⟨"java/lang/Math", "min", "(JJ)J"⟩ : MethodName) = true := by decide +kernel
theorem ef_min (m : MethodId) (a : Int64) (b : Int64) : entryFrame m #[(.long a), (.long b)] 4 = mkF m 0 #[.val (.long a), .second, .val (.long b), .second] [] := by first | (simp [entryFrame, mkF, argsToLocals, Value.category, maxLocals]; done) | rfl
def Q_min (Z : State) (a : Int64) (b : Int64) (h0 : Heap) (n0 : Nat) : Option Value → Heap → List Loc → Prop := fun v h L => (∃ z : Int64, v = some (.long z)) ∧ Fr n0 L ∧ h = h0
set_option maxRecDepth 65536 in
set_option maxHeartbeats 40000000 in
theorem rm_min (l : Launch) (Z : State) (a0 : Array Value) (hw : ∀ d ∈ tables_1, d.before a0 Z = true) (ws : List Jvm.Cond) (a : Int64) (b : Int64) (h0 : Heap) (n0 : Nat) (Z0 : n0 ≤ h0.size)  :
    MetFree l (⟨"java/lang/Math", "min", "(JJ)J"⟩ : MethodName) (head1 (Jvm.Cond.code (⟨"java/lang/Math", "min", "(JJ)J"⟩ : MethodName) jdk_29_method_70_code 4 (some .long) :: ws) ({ frames := 0, cells := 0, slots := 0, locals := 0 } : Room)) (fun aX U => aX = #[(.long a), (.long b)] ∧ Z.Warmed39 U.vm ∧ U.heap = h0) (fun _ _ _ _ _ => True) (fun _ U o U' => ∃ v L, o = .returned v ∧ (Q_min Z a b h0 n0) v U'.heap L ∧ FrameEnd U o U' L ({ frames := 0, cells := 0, slots := 0, locals := 0 } : Room).cells ({ frames := 0, cells := 0, slots := 0, locals := 0 } : Room).slots) := by
  refine own_met (Q := (Q_min Z a b h0 n0)) pf_1 (fun m => ef_min m a b) ?_
  intro p e s m below meth cD s₁ hx hby hml hret hlk hZ hown hnm X0 e0 hs0
  have hown : s.vm.findClass "java/lang/Math" = some m.cls := hown
  have N0 := Fr.nil n0
  refine own_st (fr' := (mkF m 1 #[.val (.long a), .second, .val (.long b), .second] [(.long a)])) (fun t k => XS.lloadN X0.here hx rfl (hb hby d1_0) rfl  k) ?_
  refine own_st (fr' := (mkF m 2 #[.val (.long a), .second, .val (.long b), .second] [(.long b), (.long a)])) (fun t k => XS.lloadN X0.here hx rfl (hb hby d1_1) rfl  k) ?_
  refine own_st (fr' := (mkF m 3 #[.val (.long a), .second, .val (.long b), .second] [(.int (lcmpW a b))])) (fun t k => XS.lcmp X0.here hx rfl (hb hby d1_2) rfl k) ?_
  by_cases hc1 : b.toInt < a.toInt
  · refine own_st (fr' := (mkF m 10 #[.val (.long a), .second, .val (.long b), .second] [])) (fun t k => XS.ifYes X0.here hx rfl (pc0 := 3) (pc' := 10) rfl (hb hby d1_3) rfl (own_tgtL (x := a) (y := b) hc1).1 (by decide) (by decide) k) ?_
    refine own_st (fr' := (mkF m 11 #[.val (.long a), .second, .val (.long b), .second] [(.long b)])) (fun t k => XS.lloadN X0.here hx rfl (hb hby d1_10) rfl  k) ?_
    exact own_retJ X0 hx hlk hret (hb hby d1_11) (by decide) (by decide) (⟨⟨_, rfl⟩, N0, e0⟩)
  · refine own_st (fr' := (mkF m 6 #[.val (.long a), .second, .val (.long b), .second] [])) (fun t k => XS.ifNo X0.here hx rfl (hb hby d1_3) rfl (own_fgtL (x := a) (y := b) hc1).1 k) ?_
    refine own_st (fr' := (mkF m 7 #[.val (.long a), .second, .val (.long b), .second] [(.long a)])) (fun t k => XS.lloadN X0.here hx rfl (hb hby d1_6) rfl  k) ?_
    refine own_st (fr' := (mkF m 11 #[.val (.long a), .second, .val (.long b), .second] [(.long a)])) (fun t k => XS.goto X0.here hx rfl (pc0 := 7) (pc' := 11) rfl (hb hby d1_7) (by decide) (by decide) k) ?_
    exact own_retJ X0 hx hlk hret (hb hby d1_11) (by decide) (by decide) (⟨⟨_, rfl⟩, N0, e0⟩)
theorem d2_0 : decode jdk_29_method_66_code 0 = .ok (.lload_n 0, 1) := by decide +kernel
theorem d2_1 : decode jdk_29_method_66_code 1 = .ok (.lload_n 2, 1) := by decide +kernel
theorem d2_2 : decode jdk_29_method_66_code 2 = .ok (.lcmp, 1) := by decide +kernel
theorem d2_3 : decode jdk_29_method_66_code 3 = .ok (.ifCond .lt 7, 3) := by decide +kernel
theorem d2_6 : decode jdk_29_method_66_code 6 = .ok (.lload_n 0, 1) := by decide +kernel
theorem d2_7 : decode jdk_29_method_66_code 7 = .ok (.goto 4, 3) := by decide +kernel
theorem d2_10 : decode jdk_29_method_66_code 10 = .ok (.lload_n 2, 1) := by decide +kernel
theorem d2_11 : decode jdk_29_method_66_code 11 = .ok (.lreturn, 1) := by decide +kernel
theorem pf_2 : plainFor (⟨"java/lang/Math", "max", "(JJ)J"⟩ : MethodName) = true := by decide +kernel
theorem ef_max (m : MethodId) (a : Int64) (b : Int64) : entryFrame m #[(.long a), (.long b)] 4 = mkF m 0 #[.val (.long a), .second, .val (.long b), .second] [] := by first | (simp [entryFrame, mkF, argsToLocals, Value.category, maxLocals]; done) | rfl
def Q_max (Z : State) (a : Int64) (b : Int64) (h0 : Heap) (n0 : Nat) : Option Value → Heap → List Loc → Prop := fun v h L => (∃ z : Int64, v = some (.long z)) ∧ Fr n0 L ∧ h = h0
set_option maxRecDepth 65536 in
set_option maxHeartbeats 40000000 in
theorem rm_max (l : Launch) (Z : State) (a0 : Array Value) (hw : ∀ d ∈ tables_1, d.before a0 Z = true) (ws : List Jvm.Cond) (a : Int64) (b : Int64) (h0 : Heap) (n0 : Nat) (Z0 : n0 ≤ h0.size)  :
    MetFree l (⟨"java/lang/Math", "max", "(JJ)J"⟩ : MethodName) (head1 (Jvm.Cond.code (⟨"java/lang/Math", "max", "(JJ)J"⟩ : MethodName) jdk_29_method_66_code 4 (some .long) :: ws) ({ frames := 0, cells := 0, slots := 0, locals := 0 } : Room)) (fun aX U => aX = #[(.long a), (.long b)] ∧ Z.Warmed39 U.vm ∧ U.heap = h0) (fun _ _ _ _ _ => True) (fun _ U o U' => ∃ v L, o = .returned v ∧ (Q_max Z a b h0 n0) v U'.heap L ∧ FrameEnd U o U' L ({ frames := 0, cells := 0, slots := 0, locals := 0 } : Room).cells ({ frames := 0, cells := 0, slots := 0, locals := 0 } : Room).slots) := by
  refine own_met (Q := (Q_max Z a b h0 n0)) pf_2 (fun m => ef_max m a b) ?_
  intro p e s m below meth cD s₁ hx hby hml hret hlk hZ hown hnm X0 e0 hs0
  have hown : s.vm.findClass "java/lang/Math" = some m.cls := hown
  have N0 := Fr.nil n0
  refine own_st (fr' := (mkF m 1 #[.val (.long a), .second, .val (.long b), .second] [(.long a)])) (fun t k => XS.lloadN X0.here hx rfl (hb hby d2_0) rfl  k) ?_
  refine own_st (fr' := (mkF m 2 #[.val (.long a), .second, .val (.long b), .second] [(.long b), (.long a)])) (fun t k => XS.lloadN X0.here hx rfl (hb hby d2_1) rfl  k) ?_
  refine own_st (fr' := (mkF m 3 #[.val (.long a), .second, .val (.long b), .second] [(.int (lcmpW a b))])) (fun t k => XS.lcmp X0.here hx rfl (hb hby d2_2) rfl k) ?_
  by_cases hc2 : a.toInt < b.toInt
  · refine own_st (fr' := (mkF m 10 #[.val (.long a), .second, .val (.long b), .second] [])) (fun t k => XS.ifYes X0.here hx rfl (pc0 := 3) (pc' := 10) rfl (hb hby d2_3) rfl (own_tltL (x := a) (y := b) hc2).1 (by decide) (by decide) k) ?_
    refine own_st (fr' := (mkF m 11 #[.val (.long a), .second, .val (.long b), .second] [(.long b)])) (fun t k => XS.lloadN X0.here hx rfl (hb hby d2_10) rfl  k) ?_
    exact own_retJ X0 hx hlk hret (hb hby d2_11) (by decide) (by decide) (⟨⟨_, rfl⟩, N0, e0⟩)
  · refine own_st (fr' := (mkF m 6 #[.val (.long a), .second, .val (.long b), .second] [])) (fun t k => XS.ifNo X0.here hx rfl (hb hby d2_3) rfl (own_fltL (x := a) (y := b) hc2).1 k) ?_
    refine own_st (fr' := (mkF m 7 #[.val (.long a), .second, .val (.long b), .second] [(.long a)])) (fun t k => XS.lloadN X0.here hx rfl (hb hby d2_6) rfl  k) ?_
    refine own_st (fr' := (mkF m 11 #[.val (.long a), .second, .val (.long b), .second] [(.long a)])) (fun t k => XS.goto X0.here hx rfl (pc0 := 7) (pc' := 11) rfl (hb hby d2_7) (by decide) (by decide) k) ?_
    exact own_retJ X0 hx hlk hret (hb hby d2_11) (by decide) (by decide) (⟨⟨_, rfl⟩, N0, e0⟩)
theorem d3_0 : decode prog_25_method_1_code 0 = .ok (.aload_n 0, 1) := by decide +kernel
theorem d3_1 : decode prog_25_method_1_code 1 = .ok (.invokespecial 1, 3) := by decide +kernel
theorem d3_4 : decode prog_25_method_1_code 4 = .ok (.aload_n 0, 1) := by decide +kernel
theorem d3_5 : decode prog_25_method_1_code 5 = .ok (.lload_n 1, 1) := by decide +kernel
theorem d3_6 : decode prog_25_method_1_code 6 = .ok (.putfield 7, 3) := by decide +kernel
theorem d3_9 : decode prog_25_method_1_code 9 = .ok (.aload_n 0, 1) := by decide +kernel
theorem d3_10 : decode prog_25_method_1_code 10 = .ok (.lload_n 3, 1) := by decide +kernel
theorem d3_11 : decode prog_25_method_1_code 11 = .ok (.putfield 13, 3) := by decide +kernel
theorem d3_14 : decode prog_25_method_1_code 14 = .ok (.aload_n 0, 1) := by decide +kernel
theorem d3_15 : decode prog_25_method_1_code 15 = .ok (.iload 5, 2) := by decide +kernel
theorem d3_17 : decode prog_25_method_1_code 17 = .ok (.putfield 16, 3) := by decide +kernel
theorem d3_20 : decode prog_25_method_1_code 20 = .ok (.return_, 1) := by decide +kernel
theorem pn_0 : plainName "com/example/timed_net_processes/timednetprocesses/StepRange" = true := by first | (simp [plainName, overriddenIn]; done) | decide +kernel
theorem ef_init (m : MethodId) (a : Addr) (u1 : Int64) (u2 : Int64) (u3 : Int32) : entryFrame m #[(.ref a), (.long u1), (.long u2), (.int u3)] 6 = mkF m 0 #[.val (.ref a), .val (.long u1), .second, .val (.long u2), .second, .val (.int u3)] [] := by first | (simp [entryFrame, mkF, argsToLocals, Value.category, maxLocals]; done) | rfl
def Q_init (Z : State) (a : Addr) (u1 : Int64) (u2 : Int64) (u3 : Int32) (h0 : Heap) (n0 : Nat) : Option Value → Heap → List Loc → Prop := fun v h L => v = none ∧ Fr n0 L ∧ Keep h0 h [a] ∧ Fld Z h a "com/example/timed_net_processes/timednetprocesses/StepRange" "first" "J" (.long u1) ∧ Fld Z h a "com/example/timed_net_processes/timednetprocesses/StepRange" "last" "J" (.long u2) ∧ Fld Z h a "com/example/timed_net_processes/timednetprocesses/StepRange" "transition" "I" (.int u3)
set_option maxRecDepth 65536 in
set_option maxHeartbeats 40000000 in
theorem rm_init (l : Launch) (Z : State) (a0 : Array Value) (hw : ∀ d ∈ tables_1, d.before a0 Z = true) (ws : List Jvm.Cond) (a : Addr) (u1 : Int64) (u2 : Int64) (u3 : Int32) (h0 : Heap) (n0 : Nat) (Z0 : n0 ≤ h0.size) (F_first : Fld Z h0 a "com/example/timed_net_processes/timednetprocesses/StepRange" "first" "J" (.long 0)) (F_last : Fld Z h0 a "com/example/timed_net_processes/timednetprocesses/StepRange" "last" "J" (.long 0)) (F_transition : Fld Z h0 a "com/example/timed_net_processes/timednetprocesses/StepRange" "transition" "I" (.int 0)) (E0 : Exa Z h0 a "com/example/timed_net_processes/timednetprocesses/StepRange") (ge_a : n0 ≤ a) :
    MetFree l (⟨"com/example/timed_net_processes/timednetprocesses/StepRange", "<init>", "(JJI)V"⟩ : MethodName) (head1 (Jvm.Cond.code (⟨"com/example/timed_net_processes/timednetprocesses/StepRange", "<init>", "(JJI)V"⟩ : MethodName) prog_25_method_1_code 6 none :: ws) ({ frames := 1, cells := 0, slots := 0, locals := 12 } : Room)) (fun aX U => aX = #[(.ref a), (.long u1), (.long u2), (.int u3)] ∧ Z.Warmed39 U.vm ∧ U.heap = h0) (fun _ _ _ _ _ => True) (fun _ U o U' => ∃ v L, o = .returned v ∧ (Q_init Z a u1 u2 u3 h0 n0) v U'.heap L ∧ FrameEnd U o U' L ({ frames := 1, cells := 0, slots := 0, locals := 12 } : Room).cells ({ frames := 1, cells := 0, slots := 0, locals := 12 } : Room).slots) := by
  refine own_met (Q := (Q_init Z a u1 u2 u3 h0 n0)) (plainFor_of_name (x := (⟨"com/example/timed_net_processes/timednetprocesses/StepRange", "<init>", "(JJI)V"⟩ : MethodName)) pn_0) (fun m => ef_init m a u1 u2 u3) ?_
  intro p e s m below meth cD s₁ hx hby hml hret hlk hZ hown hnm X0 e0 hs0
  have hown : s.vm.findClass "com/example/timed_net_processes/timednetprocesses/StepRange" = some m.cls := hown
  have N0 := Fr.nil n0
  refine own_st (fr' := (mkF m 1 #[.val (.ref a), .val (.long u1), .second, .val (.long u2), .second, .val (.int u3)] [(.ref a)])) (fun t k => XS.aloadN X0.here hx rfl (hb hby d3_0) rfl rfl k) ?_
  obtain ⟨T3, X3, e3, st3⟩ := initO X0 hx hZ hown (hw _ (List.mem_of_getElem? (i := 14) rfl)) (hw _ (List.mem_of_getElem? (i := 15) rfl)) (hw _ (List.mem_of_getElem? (i := 16) rfl)) e0 (g := (mkF m 1 #[.val (.ref a), .val (.long u1), .second, .val (.long u2), .second, .val (.int u3)] [(.ref a)])) rfl (by rw [hml]; rfl) rfl (hb hby d3_1) (by decide) (W := 0) (by show 2 * 0 + _ ≤ _; exact Nat.le_of_eq rfl) (by decide)
  refine own_st (fr' := (mkF m 4 #[.val (.ref a), .val (.long u1), .second, .val (.long u2), .second, .val (.int u3)] [])) st3 ?_
  refine own_st (fr' := (mkF m 5 #[.val (.ref a), .val (.long u1), .second, .val (.long u2), .second, .val (.int u3)] [(.ref a)])) (fun t k => XS.aloadN X3.here hx rfl (hb hby d3_4) rfl rfl k) ?_
  refine own_st (fr' := (mkF m 6 #[.val (.ref a), .val (.long u1), .second, .val (.long u2), .second, .val (.int u3)] [(.long u1), (.ref a)])) (fun t k => XS.lloadN X3.here hx rfl (hb hby d3_5) rfl  k) ?_
  obtain ⟨T4, h4, X4, e4, W4, st4⟩ := putF X3 hx hZ hown (host := "") (Or.inl (hw _ (List.mem_of_getElem? (i := 17) rfl))) Via.refl e3 F_first E0 (Or.inr ⟨(hw _ (List.mem_of_getElem? (i := 18) rfl)), rfl, hnm⟩) (hw _ (List.mem_of_getElem? (i := 9) rfl)) (ty := .long) (by decide) (rfl) (rfl) (g := (mkF m 6 #[.val (.ref a), .val (.long u1), .second, .val (.long u2), .second, .val (.int u3)] [(.long u1), (.ref a)])) rfl rfl (hb hby d3_6)
  have Fw4 := Fld.same W4 F_first
  have N4 := Fr.snoc X4 N0 ge_a
  refine own_st (fr' := (mkF m 9 #[.val (.ref a), .val (.long u1), .second, .val (.long u2), .second, .val (.int u3)] [])) st4 ?_
  refine own_st (fr' := (mkF m 10 #[.val (.ref a), .val (.long u1), .second, .val (.long u2), .second, .val (.int u3)] [(.ref a)])) (fun t k => XS.aloadN X4.here hx rfl (hb hby d3_9) rfl rfl k) ?_
  refine own_st (fr' := (mkF m 11 #[.val (.ref a), .val (.long u1), .second, .val (.long u2), .second, .val (.int u3)] [(.long u2), (.ref a)])) (fun t k => XS.lloadN X4.here hx rfl (hb hby d3_10) rfl  k) ?_
  obtain ⟨T5, h5, X5, e5, W5, st5⟩ := putF X4 hx hZ hown (host := "") (Or.inl (hw _ (List.mem_of_getElem? (i := 19) rfl))) Via.refl e4 (Fld.other W4 F_last (Or.inr (Jvm.RoadKit.slot_ne (C := "com/example/timed_net_processes/timednetprocesses/StepRange") (Or.inr (hw _ (List.mem_of_getElem? (i := 20) rfl))) (Or.inr (hw _ (List.mem_of_getElem? (i := 18) rfl))) (by decide) (t := .long) (t' := .long) (by decide) (by decide)))) (Exa.wr W4 E0) (Or.inr ⟨(hw _ (List.mem_of_getElem? (i := 20) rfl)), rfl, hnm⟩) (hw _ (List.mem_of_getElem? (i := 9) rfl)) (ty := .long) (by decide) (rfl) (rfl) (g := (mkF m 11 #[.val (.ref a), .val (.long u1), .second, .val (.long u2), .second, .val (.int u3)] [(.long u2), (.ref a)])) rfl rfl (hb hby d3_11)
  have Fw5 := Fld.same W5 (Fld.other W4 F_last (Or.inr (Jvm.RoadKit.slot_ne (C := "com/example/timed_net_processes/timednetprocesses/StepRange") (Or.inr (hw _ (List.mem_of_getElem? (i := 20) rfl))) (Or.inr (hw _ (List.mem_of_getElem? (i := 18) rfl))) (by decide) (t := .long) (t' := .long) (by decide) (by decide))))
  have N5 := Fr.snoc X5 N4 ge_a
  refine own_st (fr' := (mkF m 14 #[.val (.ref a), .val (.long u1), .second, .val (.long u2), .second, .val (.int u3)] [])) st5 ?_
  refine own_st (fr' := (mkF m 15 #[.val (.ref a), .val (.long u1), .second, .val (.long u2), .second, .val (.int u3)] [(.ref a)])) (fun t k => XS.aloadN X5.here hx rfl (hb hby d3_14) rfl rfl k) ?_
  refine own_st (fr' := (mkF m 17 #[.val (.ref a), .val (.long u1), .second, .val (.long u2), .second, .val (.int u3)] [(.int u3), (.ref a)])) (fun t k => XS.iload X5.here hx rfl (hb hby d3_15) rfl  k) ?_
  obtain ⟨T6, h6, X6, e6, W6, st6⟩ := putF X5 hx hZ hown (host := "") (Or.inl (hw _ (List.mem_of_getElem? (i := 21) rfl))) Via.refl e5 (Fld.other W5 (Fld.other W4 F_transition (Or.inr (Jvm.RoadKit.slot_ne (C := "com/example/timed_net_processes/timednetprocesses/StepRange") (Or.inr (hw _ (List.mem_of_getElem? (i := 22) rfl))) (Or.inr (hw _ (List.mem_of_getElem? (i := 18) rfl))) (by decide) (t := .int) (t' := .long) (by decide) (by decide)))) (Or.inr (Jvm.RoadKit.slot_ne (C := "com/example/timed_net_processes/timednetprocesses/StepRange") (Or.inr (hw _ (List.mem_of_getElem? (i := 22) rfl))) (Or.inr (hw _ (List.mem_of_getElem? (i := 20) rfl))) (by decide) (t := .int) (t' := .long) (by decide) (by decide)))) (Exa.wr W5 (Exa.wr W4 E0)) (Or.inr ⟨(hw _ (List.mem_of_getElem? (i := 22) rfl)), rfl, hnm⟩) (hw _ (List.mem_of_getElem? (i := 9) rfl)) (ty := .int) (by decide) (rfl) (rfl) (g := (mkF m 17 #[.val (.ref a), .val (.long u1), .second, .val (.long u2), .second, .val (.int u3)] [(.int u3), (.ref a)])) rfl rfl (hb hby d3_17)
  have Fw6 := Fld.same W6 (Fld.other W5 (Fld.other W4 F_transition (Or.inr (Jvm.RoadKit.slot_ne (C := "com/example/timed_net_processes/timednetprocesses/StepRange") (Or.inr (hw _ (List.mem_of_getElem? (i := 22) rfl))) (Or.inr (hw _ (List.mem_of_getElem? (i := 18) rfl))) (by decide) (t := .int) (t' := .long) (by decide) (by decide)))) (Or.inr (Jvm.RoadKit.slot_ne (C := "com/example/timed_net_processes/timednetprocesses/StepRange") (Or.inr (hw _ (List.mem_of_getElem? (i := 22) rfl))) (Or.inr (hw _ (List.mem_of_getElem? (i := 20) rfl))) (by decide) (t := .int) (t' := .long) (by decide) (by decide))))
  have N6 := Fr.snoc X6 N5 ge_a
  refine own_st (fr' := (mkF m 20 #[.val (.ref a), .val (.long u1), .second, .val (.long u2), .second, .val (.int u3)] [])) st6 ?_
  exact own_retV X6 hx hlk hret (hb hby d3_20) (by decide) (by decide) (by rw [e6]; exact ⟨rfl, N6, (Keep.wr (Keep.wr (Keep.wr (Keep.refl h0 [a]) W4 (Or.inl (List.mem_of_getElem? (i := 0) rfl))) W5 (Or.inl (List.mem_of_getElem? (i := 0) rfl))) W6 (Or.inl (List.mem_of_getElem? (i := 0) rfl))), (Fld.other W6 (Fld.other W5 Fw4 (Or.inr (Jvm.RoadKit.slot_ne (C := "com/example/timed_net_processes/timednetprocesses/StepRange") (Or.inr (hw _ (List.mem_of_getElem? (i := 18) rfl))) (Or.inr (hw _ (List.mem_of_getElem? (i := 20) rfl))) (by decide) (t := .long) (t' := .long) (by decide) (by decide)))) (Or.inr (Jvm.RoadKit.slot_ne (C := "com/example/timed_net_processes/timednetprocesses/StepRange") (Or.inr (hw _ (List.mem_of_getElem? (i := 18) rfl))) (Or.inr (hw _ (List.mem_of_getElem? (i := 22) rfl))) (by decide) (t := .long) (t' := .int) (by decide) (by decide)))), (Fld.other W6 Fw5 (Or.inr (Jvm.RoadKit.slot_ne (C := "com/example/timed_net_processes/timednetprocesses/StepRange") (Or.inr (hw _ (List.mem_of_getElem? (i := 20) rfl))) (Or.inr (hw _ (List.mem_of_getElem? (i := 22) rfl))) (by decide) (t := .long) (t' := .int) (by decide) (by decide)))), Fw6⟩)
theorem d8_0 : decode jdk_18_method_1_code 0 = .ok (.aload_n 0, 1) := by decide +kernel
theorem d8_1 : decode jdk_18_method_1_code 1 = .ok (.invokespecial 1, 3) := by decide +kernel
theorem d8_4 : decode jdk_18_method_1_code 4 = .ok (.return_, 1) := by decide +kernel
theorem pn_1 : plainName "java/lang/Number" = true := by first | (simp [plainName, overriddenIn]; done) | decide +kernel
theorem ef_num (m : MethodId) (a : Addr) : entryFrame m #[(.ref a)] 1 = mkF m 0 #[.val (.ref a)] [] := by first | (simp [entryFrame, mkF, argsToLocals, Value.category, maxLocals]; done) | rfl
def Q_num (Z : State) (a : Addr) (h0 : Heap) (n0 : Nat) : Option Value → Heap → List Loc → Prop := fun v h L => v = none ∧ Fr n0 L ∧ h = h0
set_option maxRecDepth 65536 in
set_option maxHeartbeats 40000000 in
theorem rm_num (l : Launch) (Z : State) (a0 : Array Value) (hw : ∀ d ∈ tables_1, d.before a0 Z = true) (ws : List Jvm.Cond) (a : Addr) (h0 : Heap) (n0 : Nat) (Z0 : n0 ≤ h0.size)  :
    MetFree l (⟨"java/lang/Number", "<init>", "()V"⟩ : MethodName) (head1 (Jvm.Cond.code (⟨"java/lang/Number", "<init>", "()V"⟩ : MethodName) jdk_18_method_1_code 1 none :: ws) ({ frames := 1, cells := 0, slots := 0, locals := 12 } : Room)) (fun aX U => aX = #[(.ref a)] ∧ Z.Warmed39 U.vm ∧ U.heap = h0) (fun _ _ _ _ _ => True) (fun _ U o U' => ∃ v L, o = .returned v ∧ (Q_num Z a h0 n0) v U'.heap L ∧ FrameEnd U o U' L ({ frames := 1, cells := 0, slots := 0, locals := 12 } : Room).cells ({ frames := 1, cells := 0, slots := 0, locals := 12 } : Room).slots) := by
  refine own_met (Q := (Q_num Z a h0 n0)) (plainFor_of_name (x := (⟨"java/lang/Number", "<init>", "()V"⟩ : MethodName)) pn_1) (fun m => ef_num m a) ?_
  intro p e s m below meth cD s₁ hx hby hml hret hlk hZ hown hnm X0 e0 hs0
  have hown : s.vm.findClass "java/lang/Number" = some m.cls := hown
  have N0 := Fr.nil n0
  refine own_st (fr' := (mkF m 1 #[.val (.ref a)] [(.ref a)])) (fun t k => XS.aloadN X0.here hx rfl (hb hby d8_0) rfl rfl k) ?_
  obtain ⟨T7, X7, e7, st7⟩ := initO X0 hx hZ hown (hw _ (List.mem_of_getElem? (i := 48) rfl)) (hw _ (List.mem_of_getElem? (i := 15) rfl)) (hw _ (List.mem_of_getElem? (i := 16) rfl)) e0 (g := (mkF m 1 #[.val (.ref a)] [(.ref a)])) rfl (by rw [hml]; rfl) rfl (hb hby d8_1) (by decide) (W := 0) (by show 2 * 0 + _ ≤ _; exact Nat.le_of_eq rfl) (by decide)
  refine own_st (fr' := (mkF m 4 #[.val (.ref a)] [])) st7 ?_
  exact own_retV X7 hx hlk hret (hb hby d8_4) (by decide) (by decide) (⟨rfl, N0, e7⟩)
theorem pd_0 : parseMethodDescriptor "()V" = some ⟨[], none⟩ := by decide +kernel
theorem d7_0 : decode jdk_33_method_23_code 0 = .ok (.aload_n 0, 1) := by decide +kernel
theorem d7_1 : decode jdk_33_method_23_code 1 = .ok (.invokespecial 202, 3) := by decide +kernel
theorem d7_4 : decode jdk_33_method_23_code 4 = .ok (.aload_n 0, 1) := by decide +kernel
theorem d7_5 : decode jdk_33_method_23_code 5 = .ok (.iload_n 1, 1) := by decide +kernel
theorem d7_6 : decode jdk_33_method_23_code 6 = .ok (.putfield 205, 3) := by decide +kernel
theorem d7_9 : decode jdk_33_method_23_code 9 = .ok (.return_, 1) := by decide +kernel
theorem pn_2 : plainName "java/lang/Integer" = true := by first | (simp [plainName, overriddenIn]; done) | decide +kernel
theorem ef_biInteger (m : MethodId) (a : Addr) (q : Int32) : entryFrame m #[(.ref a), (.int q)] 2 = mkF m 0 #[.val (.ref a), .val (.int q)] [] := by first | (simp [entryFrame, mkF, argsToLocals, Value.category, maxLocals]; done) | rfl
def Q_biInteger (Z : State) (a : Addr) (q : Int32) (h0 : Heap) (n0 : Nat) : Option Value → Heap → List Loc → Prop := fun v h L => v = none ∧ Fr n0 L ∧ Keep h0 h [a]
set_option maxRecDepth 65536 in
set_option maxHeartbeats 40000000 in
theorem rm_biInteger (l : Launch) (Z : State) (a0 : Array Value) (hw : ∀ d ∈ tables_1, d.before a0 Z = true) (ws : List Jvm.Cond) (a : Addr) (q : Int32) (h0 : Heap) (n0 : Nat) (Z0 : n0 ≤ h0.size) (F0 : Fld Z h0 a "java/lang/Integer" "value" "I" (.int 0)) (E0 : Exa Z h0 a "java/lang/Integer") (ge_a : n0 ≤ a) :
    MetFree l (⟨"java/lang/Integer", "<init>", "(I)V"⟩ : MethodName) (head1 (Jvm.Cond.code (⟨"java/lang/Integer", "<init>", "(I)V"⟩ : MethodName) jdk_33_method_23_code 2 none :: ws) ({ frames := 2, cells := 0, slots := 0, locals := 24 } : Room)) (fun aX U => aX = #[(.ref a), (.int q)] ∧ Z.Warmed39 U.vm ∧ U.heap = h0) (fun _ _ _ _ _ => True) (fun _ U o U' => ∃ v L, o = .returned v ∧ (Q_biInteger Z a q h0 n0) v U'.heap L ∧ FrameEnd U o U' L ({ frames := 2, cells := 0, slots := 0, locals := 24 } : Room).cells ({ frames := 2, cells := 0, slots := 0, locals := 24 } : Room).slots) := by
  refine own_met (Q := (Q_biInteger Z a q h0 n0)) (plainFor_of_name (x := (⟨"java/lang/Integer", "<init>", "(I)V"⟩ : MethodName)) pn_2) (fun m => ef_biInteger m a q) ?_
  intro p e s m below meth cD s₁ hx hby hml hret hlk hZ hown hnm X0 e0 hs0
  have hown : s.vm.findClass "java/lang/Integer" = some m.cls := hown
  have N0 := Fr.nil n0
  refine own_st (fr' := (mkF m 1 #[.val (.ref a), .val (.int q)] [(.ref a)])) (fun t k => XS.aloadN X0.here hx rfl (hb hby d7_0) rfl rfl k) ?_
  refine own_callN X0 hx hZ (y := (⟨"java/lang/Number", "<init>", "()V"⟩ : MethodName)) hown rfl (hw _ (List.mem_of_getElem? (i := 42) rfl)) (hw _ (List.mem_of_getElem? (i := 43) rfl)) (hw _ (List.mem_of_getElem? (i := 46) rfl)) (hw _ (List.mem_of_getElem? (i := 47) rfl)) (by decide) (a := a) (argsL := []) (rest := []) (W := 0) (rm_num l Z a0 hw [] a h0 n0 Z0 ) e0 (by rw [hml]; rfl) (lenOf pd_0 rfl) rfl (Nat.le_of_eq rfl) (hb hby d7_1) (by decide) (by decide) (by decide) (by decide) ?_
  intro v8 T8 L8 X8 hQ8
  obtain ⟨rfl, Nq8, eq8⟩ := hQ8
  have N8 := Fr.app N0 Nq8
  refine own_st (fr' := (mkF m 5 #[.val (.ref a), .val (.int q)] [(.ref a)])) (fun t k => XS.aloadN X8.here hx rfl (hb hby d7_4) rfl rfl k) ?_
  refine own_st (fr' := (mkF m 6 #[.val (.ref a), .val (.int q)] [(.int q), (.ref a)])) (fun t k => XS.iloadN X8.here hx rfl (hb hby d7_5) rfl  k) ?_
  obtain ⟨T9, h9, X9, e9, W9, st9⟩ := putF X8 hx hZ hown (host := "") (Or.inl (hw _ (List.mem_of_getElem? (i := 49) rfl))) Via.refl eq8 F0 E0 (Or.inr ⟨(hw _ (List.mem_of_getElem? (i := 50) rfl)), rfl, hnm⟩) (hw _ (List.mem_of_getElem? (i := 37) rfl)) (ty := .int) (by decide) (rfl) (rfl) (g := (mkF m 6 #[.val (.ref a), .val (.int q)] [(.int q), (.ref a)])) rfl rfl (hb hby d7_6)
  have Fw9 := Fld.same W9 F0
  have N9 := Fr.snoc X9 N8 ge_a
  refine own_st (fr' := (mkF m 9 #[.val (.ref a), .val (.int q)] [])) st9 ?_
  exact own_retV X9 hx hlk hret (hb hby d7_9) (by decide) (by decide) (by rw [e9]; exact ⟨rfl, N9, (Keep.wr (Keep.refl h0 [a]) W9 (Or.inl (List.mem_of_getElem? (i := 0) rfl)))⟩)
theorem pd_1 : parseMethodDescriptor "(I)V" = some ⟨[.int], none⟩ := by decide +kernel
theorem d6_0 : decode jdk_33_method_22_code 0 = .ok (.iload_n 0, 1) := by decide +kernel
theorem d6_1 : decode jdk_33_method_22_code 1 = .ok (.bipush (-128), 2) := by decide +kernel
theorem d6_3 : decode jdk_33_method_22_code 3 = .ok (.if_icmp .lt 20, 3) := by decide +kernel
theorem d6_6 : decode jdk_33_method_22_code 6 = .ok (.iload_n 0, 1) := by decide +kernel
theorem d6_7 : decode jdk_33_method_22_code 7 = .ok (.getstatic 191, 3) := by decide +kernel
theorem d6_10 : decode jdk_33_method_22_code 10 = .ok (.if_icmp .gt 13, 3) := by decide +kernel
theorem d6_13 : decode jdk_33_method_22_code 13 = .ok (.getstatic 195, 3) := by decide +kernel
theorem d6_16 : decode jdk_33_method_22_code 16 = .ok (.iload_n 0, 1) := by decide +kernel
theorem d6_17 : decode jdk_33_method_22_code 17 = .ok (.sipush 128, 3) := by decide +kernel
theorem d6_20 : decode jdk_33_method_22_code 20 = .ok (.iadd, 1) := by decide +kernel
theorem d6_21 : decode jdk_33_method_22_code 21 = .ok (.aaload, 1) := by decide +kernel
theorem d6_22 : decode jdk_33_method_22_code 22 = .ok (.areturn, 1) := by decide +kernel
theorem d6_23 : decode jdk_33_method_22_code 23 = .ok (.new 1, 3) := by decide +kernel
theorem d6_26 : decode jdk_33_method_22_code 26 = .ok (.dup, 1) := by decide +kernel
theorem d6_27 : decode jdk_33_method_22_code 27 = .ok (.iload_n 0, 1) := by decide +kernel
theorem d6_28 : decode jdk_33_method_22_code 28 = .ok (.invokespecial 199, 3) := by decide +kernel
theorem d6_31 : decode jdk_33_method_22_code 31 = .ok (.areturn, 1) := by decide +kernel
theorem ef_voInteger (m : MethodId) (q : Int32) : entryFrame m #[(.int q)] 1 = mkF m 0 #[.val (.int q)] [] := by first | (simp [entryFrame, mkF, argsToLocals, Value.category, maxLocals]; done) | rfl
def Q_voInteger (Z : State) (q : Int32) (ca : Addr) (fc : Nat → Value) (h0 : Heap) (n0 : Nat) : Option Value → Heap → List Loc → Prop := fun v h L => (∃ b : Addr, v = some (.ref b) ∧ Exa Z h b "java/lang/Integer") ∧ Fr n0 L ∧ Keep h0 h []
set_option maxRecDepth 65536 in
set_option maxHeartbeats 40000000 in
theorem rm_voInteger (l : Launch) (Z : State) (a0 : Array Value) (hw : ∀ d ∈ tables_1, d.before a0 Z = true) (ws : List Jvm.Cond) (q : Int32) (ca : Addr) (fc : Nat → Value) (h0 : Heap) (n0 : Nat) (Z0 : n0 ≤ h0.size) (S_h : Sta Z h0 "java/lang/Integer$IntegerCache" "high" "I" (.int 127)) (S_c : Sta Z h0 "java/lang/Integer$IntegerCache" "cache" "[Ljava/lang/Integer;" (.ref ca)) (V_c : own_A Z h0 ca (.object "java/lang/Integer") 256 fc) (IC : own_IC Z h0 "java/lang/Integer" 256 fc) :
    MetFree l (⟨"java/lang/Integer", "valueOf", "(I)Ljava/lang/Integer;"⟩ : MethodName) (head1 (Jvm.Cond.code (⟨"java/lang/Integer", "valueOf", "(I)Ljava/lang/Integer;"⟩ : MethodName) jdk_33_method_22_code 1 (some (.object "java/lang/Integer")) :: ws) ({ frames := 3, cells := 1, slots := 1, locals := 38 } : Room)) (fun aX U => aX = #[(.int q)] ∧ Z.Warmed39 U.vm ∧ U.heap = h0) (fun _ _ _ _ _ => True) (fun _ U o U' => ∃ v L, o = .returned v ∧ (Q_voInteger Z q ca fc h0 n0) v U'.heap L ∧ FrameEnd U o U' L ({ frames := 3, cells := 1, slots := 1, locals := 38 } : Room).cells ({ frames := 3, cells := 1, slots := 1, locals := 38 } : Room).slots) := by
  refine own_met (Q := (Q_voInteger Z q ca fc h0 n0)) (plainFor_of_name (x := (⟨"java/lang/Integer", "valueOf", "(I)Ljava/lang/Integer;"⟩ : MethodName)) pn_2) (fun m => ef_voInteger m q) ?_
  intro p e s m below meth cD s₁ hx hby hml hret hlk hZ hown hnm X0 e0 hs0
  have hown : s.vm.findClass "java/lang/Integer" = some m.cls := hown
  have N0 := Fr.nil n0
  refine own_st (fr' := (mkF m 1 #[.val (.int q)] [(.int q)])) (fun t k => XS.iloadN X0.here hx rfl (hb hby d6_0) rfl  k) ?_
  refine own_st (fr' := (mkF m 3 #[.val (.int q)] [(.int (-128 : Int32)), (.int q)])) (fun t k => XS.bipush X0.here hx rfl (hb hby d6_1) k) ?_
  by_cases h1 : q.toInt < (-128)
  · refine own_st (fr' := (mkF m 23 #[.val (.int q)] [])) (fun t k => XS.icmpYes X0.here hx rfl (pc0 := 3) (pc' := 23) rfl (hb hby d6_3) rfl (own_tlt (x := q) (y := (-128 : Int32)) h1).1 (by decide) (by decide) k) ?_
    obtain ⟨T10, h10, X10, e10, E10, A10, D10, -, st10⟩ := newO X0 hx hZ hown (hw _ (List.mem_of_getElem? (i := 36) rfl)) (hw _ (List.mem_of_getElem? (i := 37) rfl)) (hw _ (List.mem_of_getElem? (i := 32) rfl)) e0 (g := (mkF m 23 #[.val (.int q)] [])) rfl (hb hby d6_23) (by decide) (by decide)
    obtain ⟨b10, g10⟩ : ∃ z, z = h0.size := ⟨_, rfl⟩
    rw [← g10] at A10 D10 st10
    have ne10_ca : ca ≠ b10 := Nat.ne_of_lt (Nat.lt_of_lt_of_eq V_c.lt g10.symm)
    have ge_b10 : n0 ≤ b10 := Nat.le_trans Z0 (Nat.le_of_eq g10.symm)
    have sz_b10 : h0.size ≤ b10 := Nat.le_trans (Keep.refl h0 []).1 (Nat.le_of_eq g10.symm)
    have F10_value : Fld Z h10 b10 "java/lang/Integer" "value" "I" (.int (0 : Int32)) := D10 (Or.inr (hw _ (List.mem_of_getElem? (i := 50) rfl))) (ty := .int) (by decide)
    refine own_st (fr' := (mkF m 26 #[.val (.int q)] [(.ref b10)])) st10 ?_
    refine own_st (fr' := (mkF m 27 #[.val (.int q)] [(.ref b10), (.ref b10)])) (fun t k => XS.dup X10.here hx rfl (hb hby d6_26) rfl rfl k) ?_
    refine own_st (fr' := (mkF m 28 #[.val (.int q)] [(.int q), (.ref b10), (.ref b10)])) (fun t k => XS.iloadN X10.here hx rfl (hb hby d6_27) rfl  k) ?_
    refine own_callN X10 hx hZ (y := (⟨"java/lang/Integer", "<init>", "(I)V"⟩ : MethodName)) hown rfl (hw _ (List.mem_of_getElem? (i := 38) rfl)) (hw _ (List.mem_of_getElem? (i := 39) rfl)) (hw _ (List.mem_of_getElem? (i := 32) rfl)) (hw _ (List.mem_of_getElem? (i := 41) rfl)) (by decide) (a := b10) (argsL := [(.int q)]) (rest := [(.ref b10)]) (W := 1) (rm_biInteger l Z a0 hw [] b10 q h10 n0 (Nat.le_trans Z0 E10.1) F10_value A10 ge_b10) e10 (by rw [hml]; rfl) (lenOf pd_1 rfl) rfl (Nat.le_of_eq rfl) (hb hby d6_28) (by decide) (by decide) (by decide) (by decide) ?_
    intro v11 T11 L11 X11 hQ11
    obtain ⟨rfl, Nq11, K11⟩ := hQ11
    have N11 := Fr.app N0 Nq11
    exact own_retA X11 hx hlk hret rfl rfl (hb hby d6_31) (by decide) (by decide) (⟨⟨b10, rfl, (A10.keep K11)⟩, N11, (Keep.trans (Keep.ext (Keep.refl h0 []) E10) K11 (allS (Or.inr sz_b10) all0))⟩)
  · refine own_st (fr' := (mkF m 6 #[.val (.int q)] [])) (fun t k => XS.icmpNo X0.here hx rfl (hb hby d6_3) rfl (own_flt (x := q) (y := (-128 : Int32)) h1).1 k) ?_
    refine own_st (fr' := (mkF m 7 #[.val (.int q)] [(.int q)])) (fun t k => XS.iloadN X0.here hx rfl (hb hby d6_6) rfl  k) ?_
    obtain ⟨T12, X12, e12, st12⟩ := getS2 X0 hx hZ hown (host := "") (Or.inl (hw _ (List.mem_of_getElem? (i := 34) rfl))) Via.refl e0 S_h (g := (mkF m 7 #[.val (.int q)] [(.int q)])) rfl (hb hby d6_7)
    refine own_st (fr' := (mkF m 10 #[.val (.int q)] [(.int (127 : Int32)), (.int q)])) st12 ?_
    by_cases h2 : 127 < q.toInt
    · refine own_st (fr' := (mkF m 23 #[.val (.int q)] [])) (fun t k => XS.icmpYes X12.here hx rfl (pc0 := 10) (pc' := 23) rfl (hb hby d6_10) rfl (own_tlt (x := (127 : Int32)) (y := q) h2).2.2.1 (by decide) (by decide) k) ?_
      obtain ⟨T13, h13, X13, e13, E13, A13, D13, -, st13⟩ := newO X12 hx hZ hown (hw _ (List.mem_of_getElem? (i := 36) rfl)) (hw _ (List.mem_of_getElem? (i := 37) rfl)) (hw _ (List.mem_of_getElem? (i := 32) rfl)) e12 (g := (mkF m 23 #[.val (.int q)] [])) rfl (hb hby d6_23) (by decide) (by decide)
      obtain ⟨b13, g13⟩ : ∃ z, z = h0.size := ⟨_, rfl⟩
      rw [← g13] at A13 D13 st13
      have ne13_ca : ca ≠ b13 := Nat.ne_of_lt (Nat.lt_of_lt_of_eq V_c.lt g13.symm)
      have ge_b13 : n0 ≤ b13 := Nat.le_trans Z0 (Nat.le_of_eq g13.symm)
      have sz_b13 : h0.size ≤ b13 := Nat.le_trans (Keep.refl h0 []).1 (Nat.le_of_eq g13.symm)
      have F13_value : Fld Z h13 b13 "java/lang/Integer" "value" "I" (.int (0 : Int32)) := D13 (Or.inr (hw _ (List.mem_of_getElem? (i := 50) rfl))) (ty := .int) (by decide)
      refine own_st (fr' := (mkF m 26 #[.val (.int q)] [(.ref b13)])) st13 ?_
      refine own_st (fr' := (mkF m 27 #[.val (.int q)] [(.ref b13), (.ref b13)])) (fun t k => XS.dup X13.here hx rfl (hb hby d6_26) rfl rfl k) ?_
      refine own_st (fr' := (mkF m 28 #[.val (.int q)] [(.int q), (.ref b13), (.ref b13)])) (fun t k => XS.iloadN X13.here hx rfl (hb hby d6_27) rfl  k) ?_
      refine own_callN X13 hx hZ (y := (⟨"java/lang/Integer", "<init>", "(I)V"⟩ : MethodName)) hown rfl (hw _ (List.mem_of_getElem? (i := 38) rfl)) (hw _ (List.mem_of_getElem? (i := 39) rfl)) (hw _ (List.mem_of_getElem? (i := 32) rfl)) (hw _ (List.mem_of_getElem? (i := 41) rfl)) (by decide) (a := b13) (argsL := [(.int q)]) (rest := [(.ref b13)]) (W := 1) (rm_biInteger l Z a0 hw [] b13 q h13 n0 (Nat.le_trans Z0 E13.1) F13_value A13 ge_b13) e13 (by rw [hml]; rfl) (lenOf pd_1 rfl) rfl (Nat.le_of_eq rfl) (hb hby d6_28) (by decide) (by decide) (by decide) (by decide) ?_
      intro v14 T14 L14 X14 hQ14
      obtain ⟨rfl, Nq14, K14⟩ := hQ14
      have N14 := Fr.app N0 Nq14
      exact own_retA X14 hx hlk hret rfl rfl (hb hby d6_31) (by decide) (by decide) (⟨⟨b13, rfl, (A13.keep K14)⟩, N14, (Keep.trans (Keep.ext (Keep.refl h0 []) E13) K14 (allS (Or.inr sz_b13) all0))⟩)
    · refine own_st (fr' := (mkF m 13 #[.val (.int q)] [])) (fun t k => XS.icmpNo X12.here hx rfl (hb hby d6_10) rfl (own_flt (x := (127 : Int32)) (y := q) h2).2.2.1 k) ?_
      obtain ⟨T15, X15, e15, st15⟩ := getS2 X12 hx hZ hown (host := "") (Or.inl (hw _ (List.mem_of_getElem? (i := 54) rfl))) Via.refl e12 S_c (g := (mkF m 13 #[.val (.int q)] [])) rfl (hb hby d6_13)
      refine own_st (fr' := (mkF m 16 #[.val (.int q)] [(.ref ca)])) st15 ?_
      refine own_st (fr' := (mkF m 17 #[.val (.int q)] [(.int q), (.ref ca)])) (fun t k => XS.iloadN X15.here hx rfl (hb hby d6_16) rfl  k) ?_
      refine own_st (fr' := (mkF m 20 #[.val (.int q)] [(.int (128 : Int32)), (.int q), (.ref ca)])) (fun t k => XS.sipush X15.here hx rfl (hb hby d6_17) k) ?_
      refine own_st (fr' := (mkF m 21 #[.val (.int q)] [(.int (q + (128 : Int32))), (.ref ca)])) (fun t k => XS.iadd X15.here hx rfl (hb hby d6_20) rfl k) ?_
      have q1 := c_iadd q 128
      have r1 := rng32 (q + 128)
      have k1 : (128 : Int32).toInt = 128 := rfl
      generalize (q + (128 : Int32)) = ix at q1 r1 ⊢
      have i0 : 0 ≤ ix.toInt := by omega
      have i1 : ix.toInt < (256 : Int32).toInt := by have k2 : (256 : Int32).toInt = 256 := rfl; omega
      obtain ⟨bb, eb, Eb⟩ := IC ix.toInt.toNat (by omega)
      refine own_aaload X15 hx hZ e15 V_c rfl (i0) (i1) (v := (.ref bb)) (eb) (hb hby d6_21) ?_
      exact own_retA X15 hx hlk hret rfl rfl (hb hby d6_22) (by decide) (by decide) (by rw [e15]; exact ⟨⟨bb, rfl, Eb⟩, N0, (Keep.refl h0 [])⟩)
theorem d5_0 : decode prog_25_method_5_code 0 = .ok (.aload_n 1, 1) := by decide +kernel
theorem d5_1 : decode prog_25_method_5_code 1 = .ok (.instanceof 8, 3) := by decide +kernel
theorem d5_4 : decode prog_25_method_5_code 4 = .ok (.ifCond .eq 11, 3) := by decide +kernel
theorem d5_15 : decode prog_25_method_5_code 15 = .ok (.iconst 0, 1) := by decide +kernel
theorem d5_16 : decode prog_25_method_5_code 16 = .ok (.ireturn, 1) := by decide +kernel
theorem ef_eqnull (m : MethodId) (a : Addr) : entryFrame m #[(.ref a), .null] 3 = mkF m 0 #[.val (.ref a), .val .null, .unset] [] := by first | (simp [entryFrame, mkF, argsToLocals, Value.category, maxLocals]; done) | rfl
def Q_eqnull (Z : State) (a : Addr) (h0 : Heap) (n0 : Nat) : Option Value → Heap → List Loc → Prop := fun v h L => v = some (.int 0) ∧ Fr n0 L ∧ h = h0
set_option maxRecDepth 65536 in
set_option maxHeartbeats 40000000 in
theorem rm_eqnull (l : Launch) (Z : State) (a0 : Array Value) (hw : ∀ d ∈ tables_1, d.before a0 Z = true) (ws : List Jvm.Cond) (a : Addr) (h0 : Heap) (n0 : Nat) (Z0 : n0 ≤ h0.size)  :
    MetFree l (⟨"com/example/timed_net_processes/timednetprocesses/StepRange", "equals", "(Ljava/lang/Object;)Z"⟩ : MethodName) (head1 (Jvm.Cond.code (⟨"com/example/timed_net_processes/timednetprocesses/StepRange", "equals", "(Ljava/lang/Object;)Z"⟩ : MethodName) prog_25_method_5_code 3 (some .boolean) :: ws) ({ frames := 0, cells := 0, slots := 0, locals := 0 } : Room)) (fun aX U => aX = #[(.ref a), .null] ∧ Z.Warmed39 U.vm ∧ U.heap = h0) (fun _ _ _ _ _ => True) (fun _ U o U' => ∃ v L, o = .returned v ∧ (Q_eqnull Z a h0 n0) v U'.heap L ∧ FrameEnd U o U' L ({ frames := 0, cells := 0, slots := 0, locals := 0 } : Room).cells ({ frames := 0, cells := 0, slots := 0, locals := 0 } : Room).slots) := by
  refine own_met (Q := (Q_eqnull Z a h0 n0)) (plainFor_of_name (x := (⟨"com/example/timed_net_processes/timednetprocesses/StepRange", "equals", "(Ljava/lang/Object;)Z"⟩ : MethodName)) pn_0) (fun m => ef_eqnull m a) ?_
  intro p e s m below meth cD s₁ hx hby hml hret hlk hZ hown hnm X0 e0 hs0
  have hown : s.vm.findClass "com/example/timed_net_processes/timednetprocesses/StepRange" = some m.cls := hown
  have N0 := Fr.nil n0
  refine own_st (fr' := (mkF m 1 #[.val (.ref a), .val .null, .unset] [.null])) (fun t k => XS.aloadN X0.here hx rfl (hb hby d5_0) rfl rfl k) ?_
  refine own_st (fr' := (mkF m 4 #[.val (.ref a), .val .null, .unset] [(.int (0 : Int32))])) (X0.instanceofNull hx (g := (mkF m 1 #[.val (.ref a), .val .null, .unset] [.null])) rfl rfl (hb hby d5_1)) ?_
  refine own_st (fr' := (mkF m 15 #[.val (.ref a), .val .null, .unset] [])) (fun t k => XS.ifYes X0.here hx rfl (pc0 := 4) (pc' := 15) rfl (hb hby d5_4) rfl ((if0 _ _).trans (own_teq (x := (0 : Int32)) (y := (0 : Int32)) (show 0 = 0 from rfl)).1) (by decide) (by decide) k) ?_
  refine own_st (fr' := (mkF m 16 #[.val (.ref a), .val .null, .unset] [(.int (0 : Int32))])) (fun t k => XS.iconst X0.here hx rfl (hb hby d5_15) k) ?_
  exact own_retZ X0 hx hlk hret (Or.inl rfl) (hb hby d5_16) (by decide) (by decide) (⟨rfl, N0, e0⟩)
theorem ef_eqint (m : MethodId) (a : Addr) (b : Addr) : entryFrame m #[(.ref a), (.ref b)] 3 = mkF m 0 #[.val (.ref a), .val (.ref b), .unset] [] := by first | (simp [entryFrame, mkF, argsToLocals, Value.category, maxLocals]; done) | rfl
def Q_eqint (Z : State) (a : Addr) (b : Addr) (h0 : Heap) (n0 : Nat) : Option Value → Heap → List Loc → Prop := fun v h L => v = some (.int 0) ∧ Fr n0 L ∧ h = h0
set_option maxRecDepth 65536 in
set_option maxHeartbeats 40000000 in
theorem rm_eqint (l : Launch) (Z : State) (a0 : Array Value) (hw : ∀ d ∈ tables_1, d.before a0 Z = true) (ws : List Jvm.Cond) (a : Addr) (b : Addr) (h0 : Heap) (n0 : Nat) (Z0 : n0 ≤ h0.size) (E1 : Exa Z h0 b "java/lang/Integer") :
    MetFree l (⟨"com/example/timed_net_processes/timednetprocesses/StepRange", "equals", "(Ljava/lang/Object;)Z"⟩ : MethodName) (head1 (Jvm.Cond.code (⟨"com/example/timed_net_processes/timednetprocesses/StepRange", "equals", "(Ljava/lang/Object;)Z"⟩ : MethodName) prog_25_method_5_code 3 (some .boolean) :: ws) ({ frames := 0, cells := 0, slots := 0, locals := 0 } : Room)) (fun aX U => aX = #[(.ref a), (.ref b)] ∧ Z.Warmed39 U.vm ∧ U.heap = h0) (fun _ _ _ _ _ => True) (fun _ U o U' => ∃ v L, o = .returned v ∧ (Q_eqint Z a b h0 n0) v U'.heap L ∧ FrameEnd U o U' L ({ frames := 0, cells := 0, slots := 0, locals := 0 } : Room).cells ({ frames := 0, cells := 0, slots := 0, locals := 0 } : Room).slots) := by
  refine own_met (Q := (Q_eqint Z a b h0 n0)) (plainFor_of_name (x := (⟨"com/example/timed_net_processes/timednetprocesses/StepRange", "equals", "(Ljava/lang/Object;)Z"⟩ : MethodName)) pn_0) (fun m => ef_eqint m a b) ?_
  intro p e s m below meth cD s₁ hx hby hml hret hlk hZ hown hnm X0 e0 hs0
  have hown : s.vm.findClass "com/example/timed_net_processes/timednetprocesses/StepRange" = some m.cls := hown
  have N0 := Fr.nil n0
  refine own_st (fr' := (mkF m 1 #[.val (.ref a), .val (.ref b), .unset] [(.ref b)])) (fun t k => XS.aloadN X0.here hx rfl (hb hby d5_0) rfl rfl k) ?_
  have NI : Ins Z h0 b "com/example/timed_net_processes/timednetprocesses/StepRange" false := own_notIns (t := ["java/lang/Number", "java/lang/Object"]) E1 (fun w hm => by
      simp only [Cond.chainWords, List.mem_cons, List.not_mem_nil, or_false] at hm
      rcases hm with rfl | rfl | rfl
      · exact (hw _ (List.mem_of_getElem? (i := 51) rfl))
      · exact (hw _ (List.mem_of_getElem? (i := 52) rfl))
      · exact (hw _ (List.mem_of_getElem? (i := 53) rfl))) (hw _ (List.mem_of_getElem? (i := 9) rfl)) (by decide)
  obtain ⟨T16, X16, e16, st16⟩ := instN X0 hx hZ hown (hw _ (List.mem_of_getElem? (i := 28) rfl)) e0 (hs0 ▸ NI) (hs0 ▸ E1) (g := (mkF m 1 #[.val (.ref a), .val (.ref b), .unset] [(.ref b)])) rfl rfl (hb hby d5_1)
  refine own_st (fr' := (mkF m 4 #[.val (.ref a), .val (.ref b), .unset] [(.int (0 : Int32))])) st16 ?_
  refine own_st (fr' := (mkF m 15 #[.val (.ref a), .val (.ref b), .unset] [])) (fun t k => XS.ifYes X16.here hx rfl (pc0 := 4) (pc' := 15) rfl (hb hby d5_4) rfl ((if0 _ _).trans (own_teq (x := (0 : Int32)) (y := (0 : Int32)) (show 0 = 0 from rfl)).1) (by decide) (by decide) k) ?_
  refine own_st (fr' := (mkF m 16 #[.val (.ref a), .val (.ref b), .unset] [(.int (0 : Int32))])) (fun t k => XS.iconst X16.here hx rfl (hb hby d5_15) k) ?_
  exact own_retZ X16 hx hlk hret (Or.inl rfl) (hb hby d5_16) (by decide) (by decide) (⟨rfl, N0, e16⟩)
theorem d5_7 : decode prog_25_method_5_code 7 = .ok (.aload_n 1, 1) := by decide +kernel
theorem d5_8 : decode prog_25_method_5_code 8 = .ok (.checkcast 8, 3) := by decide +kernel
theorem d5_11 : decode prog_25_method_5_code 11 = .ok (.astore_n 2, 1) := by decide +kernel
theorem d5_12 : decode prog_25_method_5_code 12 = .ok (.goto 5, 3) := by decide +kernel
theorem d5_17 : decode prog_25_method_5_code 17 = .ok (.aload_n 0, 1) := by decide +kernel
theorem d5_18 : decode prog_25_method_5_code 18 = .ok (.getfield 7, 3) := by decide +kernel
theorem d5_21 : decode prog_25_method_5_code 21 = .ok (.aload_n 2, 1) := by decide +kernel
theorem d5_22 : decode prog_25_method_5_code 22 = .ok (.getfield 7, 3) := by decide +kernel
theorem d5_25 : decode prog_25_method_5_code 25 = .ok (.lcmp, 1) := by decide +kernel
theorem d5_26 : decode prog_25_method_5_code 26 = .ok (.ifCond .ne 30, 3) := by decide +kernel
theorem d5_29 : decode prog_25_method_5_code 29 = .ok (.aload_n 0, 1) := by decide +kernel
theorem d5_30 : decode prog_25_method_5_code 30 = .ok (.getfield 13, 3) := by decide +kernel
theorem d5_33 : decode prog_25_method_5_code 33 = .ok (.aload_n 2, 1) := by decide +kernel
theorem d5_34 : decode prog_25_method_5_code 34 = .ok (.getfield 13, 3) := by decide +kernel
theorem d5_37 : decode prog_25_method_5_code 37 = .ok (.lcmp, 1) := by decide +kernel
theorem d5_38 : decode prog_25_method_5_code 38 = .ok (.ifCond .ne 18, 3) := by decide +kernel
theorem d5_41 : decode prog_25_method_5_code 41 = .ok (.aload_n 0, 1) := by decide +kernel
theorem d5_42 : decode prog_25_method_5_code 42 = .ok (.getfield 16, 3) := by decide +kernel
theorem d5_45 : decode prog_25_method_5_code 45 = .ok (.aload_n 2, 1) := by decide +kernel
theorem d5_46 : decode prog_25_method_5_code 46 = .ok (.getfield 16, 3) := by decide +kernel
theorem d5_49 : decode prog_25_method_5_code 49 = .ok (.if_icmp .ne 7, 3) := by decide +kernel
theorem d5_52 : decode prog_25_method_5_code 52 = .ok (.iconst 1, 1) := by decide +kernel
theorem d5_53 : decode prog_25_method_5_code 53 = .ok (.goto 4, 3) := by decide +kernel
theorem d5_56 : decode prog_25_method_5_code 56 = .ok (.iconst 0, 1) := by decide +kernel
theorem d5_57 : decode prog_25_method_5_code 57 = .ok (.ireturn, 1) := by decide +kernel
theorem ef_eqs (m : MethodId) (a : Addr) (b : Addr) : entryFrame m #[(.ref a), (.ref b)] 3 = mkF m 0 #[.val (.ref a), .val (.ref b), .unset] [] := by first | (simp [entryFrame, mkF, argsToLocals, Value.category, maxLocals]; done) | rfl
def Q_eqs (Z : State) (a : Addr) (b : Addr) (u1 : Int64) (u2 : Int64) (u3 : Int32) (v1 : Int64) (v2 : Int64) (v3 : Int32) (h0 : Heap) (n0 : Nat) : Option Value → Heap → List Loc → Prop := fun v h L => (∃ z : Int32, v = some (.int z) ∧ (((u1.toInt = v1.toInt ∧ u2.toInt = v2.toInt ∧ u3.toInt = v3.toInt) ∧ z.toInt = 1) ∨ (¬ (u1.toInt = v1.toInt ∧ u2.toInt = v2.toInt ∧ u3.toInt = v3.toInt) ∧ z.toInt = 0))) ∧ Fr n0 L ∧ h = h0
set_option maxRecDepth 65536 in
set_option maxHeartbeats 40000000 in
theorem rm_eqs (l : Launch) (Z : State) (a0 : Array Value) (hw : ∀ d ∈ tables_1, d.before a0 Z = true) (ws : List Jvm.Cond) (a : Addr) (b : Addr) (u1 : Int64) (u2 : Int64) (u3 : Int32) (v1 : Int64) (v2 : Int64) (v3 : Int32) (h0 : Heap) (n0 : Nat) (Z0 : n0 ≤ h0.size) (E1 : Exa Z h0 b "com/example/timed_net_processes/timednetprocesses/StepRange") (Fa0 : Fld Z h0 a "com/example/timed_net_processes/timednetprocesses/StepRange" "first" "J" (.long u1)) (Fa1 : Fld Z h0 a "com/example/timed_net_processes/timednetprocesses/StepRange" "last" "J" (.long u2)) (Fa2 : Fld Z h0 a "com/example/timed_net_processes/timednetprocesses/StepRange" "transition" "I" (.int u3)) (Fb0 : Fld Z h0 b "com/example/timed_net_processes/timednetprocesses/StepRange" "first" "J" (.long v1)) (Fb1 : Fld Z h0 b "com/example/timed_net_processes/timednetprocesses/StepRange" "last" "J" (.long v2)) (Fb2 : Fld Z h0 b "com/example/timed_net_processes/timednetprocesses/StepRange" "transition" "I" (.int v3)) :
    MetFree l (⟨"com/example/timed_net_processes/timednetprocesses/StepRange", "equals", "(Ljava/lang/Object;)Z"⟩ : MethodName) (head1 (Jvm.Cond.code (⟨"com/example/timed_net_processes/timednetprocesses/StepRange", "equals", "(Ljava/lang/Object;)Z"⟩ : MethodName) prog_25_method_5_code 3 (some .boolean) :: ws) ({ frames := 0, cells := 0, slots := 0, locals := 0 } : Room)) (fun aX U => aX = #[(.ref a), (.ref b)] ∧ Z.Warmed39 U.vm ∧ U.heap = h0) (fun _ _ _ _ _ => True) (fun _ U o U' => ∃ v L, o = .returned v ∧ (Q_eqs Z a b u1 u2 u3 v1 v2 v3 h0 n0) v U'.heap L ∧ FrameEnd U o U' L ({ frames := 0, cells := 0, slots := 0, locals := 0 } : Room).cells ({ frames := 0, cells := 0, slots := 0, locals := 0 } : Room).slots) := by
  refine own_met (Q := (Q_eqs Z a b u1 u2 u3 v1 v2 v3 h0 n0)) (plainFor_of_name (x := (⟨"com/example/timed_net_processes/timednetprocesses/StepRange", "equals", "(Ljava/lang/Object;)Z"⟩ : MethodName)) pn_0) (fun m => ef_eqs m a b) ?_
  intro p e s m below meth cD s₁ hx hby hml hret hlk hZ hown hnm X0 e0 hs0
  have hown : s.vm.findClass "com/example/timed_net_processes/timednetprocesses/StepRange" = some m.cls := hown
  have N0 := Fr.nil n0
  refine own_st (fr' := (mkF m 1 #[.val (.ref a), .val (.ref b), .unset] [(.ref b)])) (fun t k => XS.aloadN X0.here hx rfl (hb hby d5_0) rfl rfl k) ?_
  obtain ⟨T17, X17, e17, st17⟩ := instY X0 hx hZ hown (hw _ (List.mem_of_getElem? (i := 28) rfl)) e0 (Ins.self E1) (g := (mkF m 1 #[.val (.ref a), .val (.ref b), .unset] [(.ref b)])) rfl rfl (hb hby d5_1)
  refine own_st (fr' := (mkF m 4 #[.val (.ref a), .val (.ref b), .unset] [(.int (1 : Int32))])) st17 ?_
  refine own_st (fr' := (mkF m 7 #[.val (.ref a), .val (.ref b), .unset] [])) (fun t k => XS.ifNo X17.here hx rfl (hb hby d5_4) rfl ((if0 _ _).trans (own_feq (x := (1 : Int32)) (y := (0 : Int32)) (show ¬ 1 = 0 from by decide)).1) k) ?_
  refine own_st (fr' := (mkF m 8 #[.val (.ref a), .val (.ref b), .unset] [(.ref b)])) (fun t k => XS.aloadN X17.here hx rfl (hb hby d5_7) rfl rfl k) ?_
  obtain ⟨T18, X18, e18, st18⟩ := castY X17 hx hZ hown (hw _ (List.mem_of_getElem? (i := 28) rfl)) e17 (Ins.self E1) (g := (mkF m 8 #[.val (.ref a), .val (.ref b), .unset] [(.ref b)])) rfl rfl (hb hby d5_8)
  refine own_st (fr' := (mkF m 11 #[.val (.ref a), .val (.ref b), .unset] [(.ref b)])) st18 ?_
  refine own_st (fr' := (mkF m 12 #[.val (.ref a), .val (.ref b), .val (.ref b)] [])) (fun t k => XS.astoreN X18.here hx rfl (hb hby d5_11) rfl rfl (l' := #[.val (.ref a), .val (.ref b), .val (.ref b)]) rfl k) ?_
  refine own_st (fr' := (mkF m 17 #[.val (.ref a), .val (.ref b), .val (.ref b)] [])) (fun t k => XS.goto X18.here hx rfl (pc0 := 12) (pc' := 17) rfl (hb hby d5_12) (by decide) (by decide) k) ?_
  refine own_st (fr' := (mkF m 18 #[.val (.ref a), .val (.ref b), .val (.ref b)] [(.ref a)])) (fun t k => XS.aloadN X18.here hx rfl (hb hby d5_17) rfl rfl k) ?_
  obtain ⟨T19, X19, e19, st19⟩ := getF X18 hx hZ hown (host := "") (Or.inl (hw _ (List.mem_of_getElem? (i := 17) rfl))) Via.refl e18 Fa0 (g := (mkF m 18 #[.val (.ref a), .val (.ref b), .val (.ref b)] [(.ref a)])) rfl rfl (hb hby d5_18)
  refine own_st (fr' := (mkF m 21 #[.val (.ref a), .val (.ref b), .val (.ref b)] [(.long u1)])) st19 ?_
  refine own_st (fr' := (mkF m 22 #[.val (.ref a), .val (.ref b), .val (.ref b)] [(.ref b), (.long u1)])) (fun t k => XS.aloadN X19.here hx rfl (hb hby d5_21) rfl rfl k) ?_
  obtain ⟨T20, X20, e20, st20⟩ := getF X19 hx hZ hown (host := "") (Or.inl (hw _ (List.mem_of_getElem? (i := 17) rfl))) Via.refl e19 Fb0 (g := (mkF m 22 #[.val (.ref a), .val (.ref b), .val (.ref b)] [(.ref b), (.long u1)])) rfl rfl (hb hby d5_22)
  refine own_st (fr' := (mkF m 25 #[.val (.ref a), .val (.ref b), .val (.ref b)] [(.long v1), (.long u1)])) st20 ?_
  refine own_st (fr' := (mkF m 26 #[.val (.ref a), .val (.ref b), .val (.ref b)] [(.int (lcmpW u1 v1))])) (fun t k => XS.lcmp X20.here hx rfl (hb hby d5_25) rfl k) ?_
  by_cases hc21 : u1.toInt = v1.toInt
  · refine own_st (fr' := (mkF m 29 #[.val (.ref a), .val (.ref b), .val (.ref b)] [])) (fun t k => XS.ifNo X20.here hx rfl (hb hby d5_26) rfl (own_teqL (x := u1) (y := v1) hc21).2 k) ?_
    refine own_st (fr' := (mkF m 30 #[.val (.ref a), .val (.ref b), .val (.ref b)] [(.ref a)])) (fun t k => XS.aloadN X20.here hx rfl (hb hby d5_29) rfl rfl k) ?_
    obtain ⟨T22, X22, e22, st22⟩ := getF X20 hx hZ hown (host := "") (Or.inl (hw _ (List.mem_of_getElem? (i := 19) rfl))) Via.refl e20 Fa1 (g := (mkF m 30 #[.val (.ref a), .val (.ref b), .val (.ref b)] [(.ref a)])) rfl rfl (hb hby d5_30)
    refine own_st (fr' := (mkF m 33 #[.val (.ref a), .val (.ref b), .val (.ref b)] [(.long u2)])) st22 ?_
    refine own_st (fr' := (mkF m 34 #[.val (.ref a), .val (.ref b), .val (.ref b)] [(.ref b), (.long u2)])) (fun t k => XS.aloadN X22.here hx rfl (hb hby d5_33) rfl rfl k) ?_
    obtain ⟨T23, X23, e23, st23⟩ := getF X22 hx hZ hown (host := "") (Or.inl (hw _ (List.mem_of_getElem? (i := 19) rfl))) Via.refl e22 Fb1 (g := (mkF m 34 #[.val (.ref a), .val (.ref b), .val (.ref b)] [(.ref b), (.long u2)])) rfl rfl (hb hby d5_34)
    refine own_st (fr' := (mkF m 37 #[.val (.ref a), .val (.ref b), .val (.ref b)] [(.long v2), (.long u2)])) st23 ?_
    refine own_st (fr' := (mkF m 38 #[.val (.ref a), .val (.ref b), .val (.ref b)] [(.int (lcmpW u2 v2))])) (fun t k => XS.lcmp X23.here hx rfl (hb hby d5_37) rfl k) ?_
    by_cases hc24 : u2.toInt = v2.toInt
    · refine own_st (fr' := (mkF m 41 #[.val (.ref a), .val (.ref b), .val (.ref b)] [])) (fun t k => XS.ifNo X23.here hx rfl (hb hby d5_38) rfl (own_teqL (x := u2) (y := v2) hc24).2 k) ?_
      refine own_st (fr' := (mkF m 42 #[.val (.ref a), .val (.ref b), .val (.ref b)] [(.ref a)])) (fun t k => XS.aloadN X23.here hx rfl (hb hby d5_41) rfl rfl k) ?_
      obtain ⟨T25, X25, e25, st25⟩ := getF X23 hx hZ hown (host := "") (Or.inl (hw _ (List.mem_of_getElem? (i := 21) rfl))) Via.refl e23 Fa2 (g := (mkF m 42 #[.val (.ref a), .val (.ref b), .val (.ref b)] [(.ref a)])) rfl rfl (hb hby d5_42)
      refine own_st (fr' := (mkF m 45 #[.val (.ref a), .val (.ref b), .val (.ref b)] [(.int u3)])) st25 ?_
      refine own_st (fr' := (mkF m 46 #[.val (.ref a), .val (.ref b), .val (.ref b)] [(.ref b), (.int u3)])) (fun t k => XS.aloadN X25.here hx rfl (hb hby d5_45) rfl rfl k) ?_
      obtain ⟨T26, X26, e26, st26⟩ := getF X25 hx hZ hown (host := "") (Or.inl (hw _ (List.mem_of_getElem? (i := 21) rfl))) Via.refl e25 Fb2 (g := (mkF m 46 #[.val (.ref a), .val (.ref b), .val (.ref b)] [(.ref b), (.int u3)])) rfl rfl (hb hby d5_46)
      refine own_st (fr' := (mkF m 49 #[.val (.ref a), .val (.ref b), .val (.ref b)] [(.int v3), (.int u3)])) st26 ?_
      by_cases hc27 : u3.toInt = v3.toInt
      · refine own_st (fr' := (mkF m 52 #[.val (.ref a), .val (.ref b), .val (.ref b)] [])) (fun t k => XS.icmpNo X26.here hx rfl (hb hby d5_49) rfl (own_teq (x := u3) (y := v3) hc27).2 k) ?_
        refine own_st (fr' := (mkF m 53 #[.val (.ref a), .val (.ref b), .val (.ref b)] [(.int (1 : Int32))])) (fun t k => XS.iconst X26.here hx rfl (hb hby d5_52) k) ?_
        refine own_st (fr' := (mkF m 57 #[.val (.ref a), .val (.ref b), .val (.ref b)] [(.int (1 : Int32))])) (fun t k => XS.goto X26.here hx rfl (pc0 := 53) (pc' := 57) rfl (hb hby d5_53) (by decide) (by decide) k) ?_
        exact own_retZ X26 hx hlk hret (Or.inr rfl) (hb hby d5_57) (by decide) (by decide) (⟨⟨_, rfl, Or.inl ⟨by omega, rfl⟩⟩, N0, e26⟩)
      · refine own_st (fr' := (mkF m 56 #[.val (.ref a), .val (.ref b), .val (.ref b)] [])) (fun t k => XS.icmpYes X26.here hx rfl (pc0 := 49) (pc' := 56) rfl (hb hby d5_49) rfl (own_feq (x := u3) (y := v3) hc27).2 (by decide) (by decide) k) ?_
        refine own_st (fr' := (mkF m 57 #[.val (.ref a), .val (.ref b), .val (.ref b)] [(.int (0 : Int32))])) (fun t k => XS.iconst X26.here hx rfl (hb hby d5_56) k) ?_
        exact own_retZ X26 hx hlk hret (Or.inl rfl) (hb hby d5_57) (by decide) (by decide) (⟨⟨_, rfl, Or.inr ⟨by omega, rfl⟩⟩, N0, e26⟩)
    · refine own_st (fr' := (mkF m 56 #[.val (.ref a), .val (.ref b), .val (.ref b)] [])) (fun t k => XS.ifYes X23.here hx rfl (pc0 := 38) (pc' := 56) rfl (hb hby d5_38) rfl (own_feqL (x := u2) (y := v2) hc24).2 (by decide) (by decide) k) ?_
      refine own_st (fr' := (mkF m 57 #[.val (.ref a), .val (.ref b), .val (.ref b)] [(.int (0 : Int32))])) (fun t k => XS.iconst X23.here hx rfl (hb hby d5_56) k) ?_
      exact own_retZ X23 hx hlk hret (Or.inl rfl) (hb hby d5_57) (by decide) (by decide) (⟨⟨_, rfl, Or.inr ⟨by omega, rfl⟩⟩, N0, e23⟩)
  · refine own_st (fr' := (mkF m 56 #[.val (.ref a), .val (.ref b), .val (.ref b)] [])) (fun t k => XS.ifYes X20.here hx rfl (pc0 := 26) (pc' := 56) rfl (hb hby d5_26) rfl (own_feqL (x := u1) (y := v1) hc21).2 (by decide) (by decide) k) ?_
    refine own_st (fr' := (mkF m 57 #[.val (.ref a), .val (.ref b), .val (.ref b)] [(.int (0 : Int32))])) (fun t k => XS.iconst X20.here hx rfl (hb hby d5_56) k) ?_
    exact own_retZ X20 hx hlk hret (Or.inl rfl) (hb hby d5_57) (by decide) (by decide) (⟨⟨_, rfl, Or.inr ⟨by omega, rfl⟩⟩, N0, e20⟩)
theorem pd_2 : parseMethodDescriptor "(JJ)J" = some ⟨[.long, .long], some .long⟩ := by decide +kernel
theorem pd_3 : parseMethodDescriptor "(JJI)V" = some ⟨[.long, .long, .int], none⟩ := by decide +kernel
theorem pd_4 : parseMethodDescriptor "(Ljava/lang/Object;)Z" = some ⟨[(.object "java/lang/Object")], some .boolean⟩ := by decide +kernel
theorem pd_5 : parseMethodDescriptor "(I)Ljava/lang/Integer;" = some ⟨[.int], some (.object "java/lang/Integer")⟩ := by decide +kernel
theorem pn_3 : plainName "com/example/timed_net_processes/timednetprocesses/StepRangeEqualsPinLaw" = true := by first | (simp [plainName, overriddenIn]; done) | decide +kernel
theorem ef_law (m : MethodId) (p0 : Int64) (p1 : Int64) (p2 : Int32) (p3 : Int64) (p4 : Int64) (p5 : Int32) : entryFrame m #[(.long p0), (.long p1), (.int p2), (.long p3), (.long p4), (.int p5)] maxLocals = mkF m 0 #[.val (.long p0), .second, .val (.long p1), .second, .val (.int p2), .val (.long p3), .second, .val (.long p4), .second, .val (.int p5), .unset, .unset, .unset, .unset, .unset, .unset, .unset, .unset, .unset, .unset, .unset, .unset, .unset, .unset, .unset, .unset, .unset, .unset, .unset, .unset, .unset] [] := by first | (simp [entryFrame, mkF, argsToLocals, Value.category, maxLocals]; done) | rfl
def Q_law (Z : State) (p0 : Int64) (p1 : Int64) (p2 : Int32) (p3 : Int64) (p4 : Int64) (p5 : Int32) (ca : Addr) (fc : Nat → Value) (h0 : Heap) (n0 : Nat) : Option Value → Heap → List Loc → Prop := fun v h L => v = some (.int 1) ∧ Fr n0 L
set_option maxRecDepth 65536 in
set_option maxHeartbeats 40000000 in
theorem rm_law (l : Launch) (Z : State) (a0 : Array Value) (hw : ∀ d ∈ tables_1, d.before a0 Z = true) (ws : List Jvm.Cond) (p0 : Int64) (p1 : Int64) (p2 : Int32) (p3 : Int64) (p4 : Int64) (p5 : Int32) (ca : Addr) (fc : Nat → Value) (h0 : Heap) (n0 : Nat) (Z0 : n0 ≤ h0.size) (S_h : Sta Z h0 "java/lang/Integer$IntegerCache" "high" "I" (.int 127)) (S_c : Sta Z h0 "java/lang/Integer$IntegerCache" "cache" "[Ljava/lang/Integer;" (.ref ca)) (V_c : own_A Z h0 ca (.object "java/lang/Integer") 256 fc) (IC : own_IC Z h0 "java/lang/Integer" 256 fc) :
    MetFree l x (head1 (Jvm.Cond.code x code maxLocals ret :: ws) room_1) (fun aX U => aX = #[(.long p0), (.long p1), (.int p2), (.long p3), (.long p4), (.int p5)] ∧ Z.Warmed39 U.vm ∧ U.heap = h0) (fun _ _ _ _ _ => True) (fun _ U o U' => ∃ v L, o = .returned v ∧ (Q_law Z p0 p1 p2 p3 p4 p5 ca fc h0 n0) v U'.heap L ∧ FrameEnd U o U' L room_1.cells room_1.slots) := by
  refine own_met (Q := (Q_law Z p0 p1 p2 p3 p4 p5 ca fc h0 n0)) (plainFor_of_name (x := x) pn_3) (fun m => ef_law m p0 p1 p2 p3 p4 p5) ?_
  intro p e s m below meth cD s₁ hx hby hml hret hlk hZ hown hnm X0 e0 hs0
  have hml : cD.maxLocals = 31 := hml
  have hown : s.vm.findClass "com/example/timed_net_processes/timednetprocesses/StepRangeEqualsPinLaw" = some m.cls := hown
  have N0 := Fr.nil n0
  refine own_st (fr' := (mkF m 1 #[.val (.long p0), .second, .val (.long p1), .second, .val (.int p2), .val (.long p3), .second, .val (.long p4), .second, .val (.int p5), .unset, .unset, .unset, .unset, .unset, .unset, .unset, .unset, .unset, .unset, .unset, .unset, .unset, .unset, .unset, .unset, .unset, .unset, .unset, .unset, .unset] [(.long p0)])) (fun t k => XS.lloadN X0.here hx rfl (hb hby at_0) rfl  k) ?_
  refine own_st (fr' := (mkF m 4 #[.val (.long p0), .second, .val (.long p1), .second, .val (.int p2), .val (.long p3), .second, .val (.long p4), .second, .val (.int p5), .unset, .unset, .unset, .unset, .unset, .unset, .unset, .unset, .unset, .unset, .unset, .unset, .unset, .unset, .unset, .unset, .unset, .unset, .unset, .unset, .unset] [(.long (9223372036854775807 : Int64)), (.long p0)])) (fun t k => X0.ldc2Long hx hown (mvT hZ (hw _ (List.mem_of_getElem? (i := 0) rfl))) (g := (mkF m 1 #[.val (.long p0), .second, .val (.long p1), .second, .val (.int p2), .val (.long p3), .second, .val (.long p4), .second, .val (.int p5), .unset, .unset, .unset, .unset, .unset, .unset, .unset, .unset, .unset, .unset, .unset, .unset, .unset, .unset, .unset, .unset, .unset, .unset, .unset, .unset, .unset] [(.long p0)])) rfl (hb hby at_1) t k) ?_
  refine own_st (fr' := (mkF m 5 #[.val (.long p0), .second, .val (.long p1), .second, .val (.int p2), .val (.long p3), .second, .val (.long p4), .second, .val (.int p5), .unset, .unset, .unset, .unset, .unset, .unset, .unset, .unset, .unset, .unset, .unset, .unset, .unset, .unset, .unset, .unset, .unset, .unset, .unset, .unset, .unset] [(.long (p0 &&& (9223372036854775807 : Int64)))])) (fun t k => XS.land X0.here hx rfl (hb hby at_4) rfl k) ?_
  refine own_st (fr' := (mkF m 7 #[.val (.long p0), .second, .val (.long p1), .second, .val (.int p2), .val (.long p3), .second, .val (.long p4), .second, .val (.int p5), .val (.long (p0 &&& (9223372036854775807 : Int64))), .second, .unset, .unset, .unset, .unset, .unset, .unset, .unset, .unset, .unset, .unset, .unset, .unset, .unset, .unset, .unset, .unset, .unset, .unset, .unset] [])) (fun t k => XS.lstore X0.here hx rfl (hb hby at_5) rfl  (l' := #[.val (.long p0), .second, .val (.long p1), .second, .val (.int p2), .val (.long p3), .second, .val (.long p4), .second, .val (.int p5), .val (.long (p0 &&& (9223372036854775807 : Int64))), .second, .unset, .unset, .unset, .unset, .unset, .unset, .unset, .unset, .unset, .unset, .unset, .unset, .unset, .unset, .unset, .unset, .unset, .unset, .unset]) rfl k) ?_
  refine own_st (fr' := (mkF m 8 #[.val (.long p0), .second, .val (.long p1), .second, .val (.int p2), .val (.long p3), .second, .val (.long p4), .second, .val (.int p5), .val (.long (p0 &&& (9223372036854775807 : Int64))), .second, .unset, .unset, .unset, .unset, .unset, .unset, .unset, .unset, .unset, .unset, .unset, .unset, .unset, .unset, .unset, .unset, .unset, .unset, .unset] [(.long p1)])) (fun t k => XS.lloadN X0.here hx rfl (hb hby at_7) rfl  k) ?_
  refine own_st (fr' := (mkF m 11 #[.val (.long p0), .second, .val (.long p1), .second, .val (.int p2), .val (.long p3), .second, .val (.long p4), .second, .val (.int p5), .val (.long (p0 &&& (9223372036854775807 : Int64))), .second, .unset, .unset, .unset, .unset, .unset, .unset, .unset, .unset, .unset, .unset, .unset, .unset, .unset, .unset, .unset, .unset, .unset, .unset, .unset] [(.long (9223372036854775807 : Int64)), (.long p1)])) (fun t k => X0.ldc2Long hx hown (mvT hZ (hw _ (List.mem_of_getElem? (i := 0) rfl))) (g := (mkF m 8 #[.val (.long p0), .second, .val (.long p1), .second, .val (.int p2), .val (.long p3), .second, .val (.long p4), .second, .val (.int p5), .val (.long (p0 &&& (9223372036854775807 : Int64))), .second, .unset, .unset, .unset, .unset, .unset, .unset, .unset, .unset, .unset, .unset, .unset, .unset, .unset, .unset, .unset, .unset, .unset, .unset, .unset] [(.long p1)])) rfl (hb hby at_8) t k) ?_
  refine own_st (fr' := (mkF m 12 #[.val (.long p0), .second, .val (.long p1), .second, .val (.int p2), .val (.long p3), .second, .val (.long p4), .second, .val (.int p5), .val (.long (p0 &&& (9223372036854775807 : Int64))), .second, .unset, .unset, .unset, .unset, .unset, .unset, .unset, .unset, .unset, .unset, .unset, .unset, .unset, .unset, .unset, .unset, .unset, .unset, .unset] [(.long (p1 &&& (9223372036854775807 : Int64)))])) (fun t k => XS.land X0.here hx rfl (hb hby at_11) rfl k) ?_
  refine own_st (fr' := (mkF m 14 #[.val (.long p0), .second, .val (.long p1), .second, .val (.int p2), .val (.long p3), .second, .val (.long p4), .second, .val (.int p5), .val (.long (p0 &&& (9223372036854775807 : Int64))), .second, .val (.long (p1 &&& (9223372036854775807 : Int64))), .second, .unset, .unset, .unset, .unset, .unset, .unset, .unset, .unset, .unset, .unset, .unset, .unset, .unset, .unset, .unset, .unset, .unset] [])) (fun t k => XS.lstore X0.here hx rfl (hb hby at_12) rfl  (l' := #[.val (.long p0), .second, .val (.long p1), .second, .val (.int p2), .val (.long p3), .second, .val (.long p4), .second, .val (.int p5), .val (.long (p0 &&& (9223372036854775807 : Int64))), .second, .val (.long (p1 &&& (9223372036854775807 : Int64))), .second, .unset, .unset, .unset, .unset, .unset, .unset, .unset, .unset, .unset, .unset, .unset, .unset, .unset, .unset, .unset, .unset, .unset]) rfl k) ?_
  refine own_st (fr' := (mkF m 16 #[.val (.long p0), .second, .val (.long p1), .second, .val (.int p2), .val (.long p3), .second, .val (.long p4), .second, .val (.int p5), .val (.long (p0 &&& (9223372036854775807 : Int64))), .second, .val (.long (p1 &&& (9223372036854775807 : Int64))), .second, .unset, .unset, .unset, .unset, .unset, .unset, .unset, .unset, .unset, .unset, .unset, .unset, .unset, .unset, .unset, .unset, .unset] [(.long (p0 &&& (9223372036854775807 : Int64)))])) (fun t k => XS.lload X0.here hx rfl (hb hby at_14) rfl  k) ?_
  refine own_st (fr' := (mkF m 18 #[.val (.long p0), .second, .val (.long p1), .second, .val (.int p2), .val (.long p3), .second, .val (.long p4), .second, .val (.int p5), .val (.long (p0 &&& (9223372036854775807 : Int64))), .second, .val (.long (p1 &&& (9223372036854775807 : Int64))), .second, .unset, .unset, .unset, .unset, .unset, .unset, .unset, .unset, .unset, .unset, .unset, .unset, .unset, .unset, .unset, .unset, .unset] [(.long (p1 &&& (9223372036854775807 : Int64))), (.long (p0 &&& (9223372036854775807 : Int64)))])) (fun t k => XS.lload X0.here hx rfl (hb hby at_16) rfl  k) ?_
  refine own_callS X0 hx hZ (y := (⟨"java/lang/Math", "min", "(JJ)J"⟩ : MethodName)) hown (hw _ (List.mem_of_getElem? (i := 1) rfl)) (hw _ (List.mem_of_getElem? (i := 2) rfl)) (hw _ (List.mem_of_getElem? (i := 3) rfl)) (hw _ (List.mem_of_getElem? (i := 4) rfl)) (by decide) (argsL := [(.long (p0 &&& (9223372036854775807 : Int64))), (.long (p1 &&& (9223372036854775807 : Int64)))]) (rest := []) (W := 0) (rm_min l Z a0 hw [] (p0 &&& (9223372036854775807 : Int64)) (p1 &&& (9223372036854775807 : Int64)) h0 n0 Z0 ) e0 (by rw [hml]; rfl) (lenOf pd_2 rfl) rfl (Nat.le_of_eq rfl) (hb hby at_18) (by decide) (by decide) (by decide) (by decide) ?_
  intro v28 T28 L28 X28 hQ28
  obtain ⟨⟨y28, rfl⟩, Nq28, eq28⟩ := hQ28
  have N28 := Fr.app N0 Nq28
  refine own_st (fr' := (mkF m 23 #[.val (.long p0), .second, .val (.long p1), .second, .val (.int p2), .val (.long p3), .second, .val (.long p4), .second, .val (.int p5), .val (.long (p0 &&& (9223372036854775807 : Int64))), .second, .val (.long (p1 &&& (9223372036854775807 : Int64))), .second, .val (.long y28), .second, .unset, .unset, .unset, .unset, .unset, .unset, .unset, .unset, .unset, .unset, .unset, .unset, .unset, .unset, .unset] [])) (fun t k => XS.lstore X28.here hx rfl (hb hby at_21) rfl  (l' := #[.val (.long p0), .second, .val (.long p1), .second, .val (.int p2), .val (.long p3), .second, .val (.long p4), .second, .val (.int p5), .val (.long (p0 &&& (9223372036854775807 : Int64))), .second, .val (.long (p1 &&& (9223372036854775807 : Int64))), .second, .val (.long y28), .second, .unset, .unset, .unset, .unset, .unset, .unset, .unset, .unset, .unset, .unset, .unset, .unset, .unset, .unset, .unset]) rfl k) ?_
  refine own_st (fr' := (mkF m 25 #[.val (.long p0), .second, .val (.long p1), .second, .val (.int p2), .val (.long p3), .second, .val (.long p4), .second, .val (.int p5), .val (.long (p0 &&& (9223372036854775807 : Int64))), .second, .val (.long (p1 &&& (9223372036854775807 : Int64))), .second, .val (.long y28), .second, .unset, .unset, .unset, .unset, .unset, .unset, .unset, .unset, .unset, .unset, .unset, .unset, .unset, .unset, .unset] [(.long (p0 &&& (9223372036854775807 : Int64)))])) (fun t k => XS.lload X28.here hx rfl (hb hby at_23) rfl  k) ?_
  refine own_st (fr' := (mkF m 27 #[.val (.long p0), .second, .val (.long p1), .second, .val (.int p2), .val (.long p3), .second, .val (.long p4), .second, .val (.int p5), .val (.long (p0 &&& (9223372036854775807 : Int64))), .second, .val (.long (p1 &&& (9223372036854775807 : Int64))), .second, .val (.long y28), .second, .unset, .unset, .unset, .unset, .unset, .unset, .unset, .unset, .unset, .unset, .unset, .unset, .unset, .unset, .unset] [(.long (p1 &&& (9223372036854775807 : Int64))), (.long (p0 &&& (9223372036854775807 : Int64)))])) (fun t k => XS.lload X28.here hx rfl (hb hby at_25) rfl  k) ?_
  refine own_callS X28 hx hZ (y := (⟨"java/lang/Math", "max", "(JJ)J"⟩ : MethodName)) hown (hw _ (List.mem_of_getElem? (i := 5) rfl)) (hw _ (List.mem_of_getElem? (i := 6) rfl)) (hw _ (List.mem_of_getElem? (i := 3) rfl)) (hw _ (List.mem_of_getElem? (i := 7) rfl)) (by decide) (argsL := [(.long (p0 &&& (9223372036854775807 : Int64))), (.long (p1 &&& (9223372036854775807 : Int64)))]) (rest := []) (W := 0) (rm_max l Z a0 hw [] (p0 &&& (9223372036854775807 : Int64)) (p1 &&& (9223372036854775807 : Int64)) h0 n0 Z0 ) eq28 (by rw [hml]; rfl) (lenOf pd_2 rfl) rfl (Nat.le_of_eq rfl) (hb hby at_27) (by decide) (by decide) (by decide) (by decide) ?_
  intro v29 T29 L29 X29 hQ29
  obtain ⟨⟨y29, rfl⟩, Nq29, eq29⟩ := hQ29
  have N29 := Fr.app N28 Nq29
  refine own_st (fr' := (mkF m 32 #[.val (.long p0), .second, .val (.long p1), .second, .val (.int p2), .val (.long p3), .second, .val (.long p4), .second, .val (.int p5), .val (.long (p0 &&& (9223372036854775807 : Int64))), .second, .val (.long (p1 &&& (9223372036854775807 : Int64))), .second, .val (.long y28), .second, .val (.long y29), .second, .unset, .unset, .unset, .unset, .unset, .unset, .unset, .unset, .unset, .unset, .unset, .unset, .unset] [])) (fun t k => XS.lstore X29.here hx rfl (hb hby at_30) rfl  (l' := #[.val (.long p0), .second, .val (.long p1), .second, .val (.int p2), .val (.long p3), .second, .val (.long p4), .second, .val (.int p5), .val (.long (p0 &&& (9223372036854775807 : Int64))), .second, .val (.long (p1 &&& (9223372036854775807 : Int64))), .second, .val (.long y28), .second, .val (.long y29), .second, .unset, .unset, .unset, .unset, .unset, .unset, .unset, .unset, .unset, .unset, .unset, .unset, .unset]) rfl k) ?_
  refine own_st (fr' := (mkF m 34 #[.val (.long p0), .second, .val (.long p1), .second, .val (.int p2), .val (.long p3), .second, .val (.long p4), .second, .val (.int p5), .val (.long (p0 &&& (9223372036854775807 : Int64))), .second, .val (.long (p1 &&& (9223372036854775807 : Int64))), .second, .val (.long y28), .second, .val (.long y29), .second, .unset, .unset, .unset, .unset, .unset, .unset, .unset, .unset, .unset, .unset, .unset, .unset, .unset] [(.int p5)])) (fun t k => XS.iload X29.here hx rfl (hb hby at_32) rfl  k) ?_
  refine own_st (fr' := (mkF m 35 #[.val (.long p0), .second, .val (.long p1), .second, .val (.int p2), .val (.long p3), .second, .val (.long p4), .second, .val (.int p5), .val (.long (p0 &&& (9223372036854775807 : Int64))), .second, .val (.long (p1 &&& (9223372036854775807 : Int64))), .second, .val (.long y28), .second, .val (.long y29), .second, .unset, .unset, .unset, .unset, .unset, .unset, .unset, .unset, .unset, .unset, .unset, .unset, .unset] [(.int (1 : Int32)), (.int p5)])) (fun t k => XS.iconst X29.here hx rfl (hb hby at_34) k) ?_
  refine own_st (fr' := (mkF m 36 #[.val (.long p0), .second, .val (.long p1), .second, .val (.int p2), .val (.long p3), .second, .val (.long p4), .second, .val (.int p5), .val (.long (p0 &&& (9223372036854775807 : Int64))), .second, .val (.long (p1 &&& (9223372036854775807 : Int64))), .second, .val (.long y28), .second, .val (.long y29), .second, .unset, .unset, .unset, .unset, .unset, .unset, .unset, .unset, .unset, .unset, .unset, .unset, .unset] [(.int (p5 &&& (1 : Int32)))])) (fun t k => XS.iand X29.here hx rfl (hb hby at_35) rfl k) ?_
  suffices J30 : ∀ (z32_0 : Int64), (True) → Go p e below s room_1.cells room_1.slots (Q_law Z p0 p1 p2 p3 p4 p5 ca fc h0 n0) T29 (mkF m 50 #[.val (.long p0), .second, .val (.long p1), .second, .val (.int p2), .val (.long p3), .second, .val (.long p4), .second, .val (.int p5), .val (.long (p0 &&& (9223372036854775807 : Int64))), .second, .val (.long (p1 &&& (9223372036854775807 : Int64))), .second, .val (.long y28), .second, .val (.long y29), .second, .unset, .unset, .unset, .unset, .unset, .unset, .unset, .unset, .unset, .unset, .unset, .unset, .unset] [(.long z32_0)]) by
    by_cases hc31 : (p5 &&& (1 : Int32)).toInt = 0
    · refine own_st (fr' := (mkF m 44 #[.val (.long p0), .second, .val (.long p1), .second, .val (.int p2), .val (.long p3), .second, .val (.long p4), .second, .val (.int p5), .val (.long (p0 &&& (9223372036854775807 : Int64))), .second, .val (.long (p1 &&& (9223372036854775807 : Int64))), .second, .val (.long y28), .second, .val (.long y29), .second, .unset, .unset, .unset, .unset, .unset, .unset, .unset, .unset, .unset, .unset, .unset, .unset, .unset] [])) (fun t k => XS.ifYes X29.here hx rfl (pc0 := 36) (pc' := 44) rfl (hb hby at_36) rfl ((if0 _ _).trans (own_teq (x := (p5 &&& (1 : Int32))) (y := (0 : Int32)) hc31).1) (by decide) (by decide) k) ?_
      refine own_st (fr' := (mkF m 46 #[.val (.long p0), .second, .val (.long p1), .second, .val (.int p2), .val (.long p3), .second, .val (.long p4), .second, .val (.int p5), .val (.long (p0 &&& (9223372036854775807 : Int64))), .second, .val (.long (p1 &&& (9223372036854775807 : Int64))), .second, .val (.long y28), .second, .val (.long y29), .second, .unset, .unset, .unset, .unset, .unset, .unset, .unset, .unset, .unset, .unset, .unset, .unset, .unset] [(.long p3)])) (fun t k => XS.lload X29.here hx rfl (hb hby at_44) rfl  k) ?_
      refine own_st (fr' := (mkF m 49 #[.val (.long p0), .second, .val (.long p1), .second, .val (.int p2), .val (.long p3), .second, .val (.long p4), .second, .val (.int p5), .val (.long (p0 &&& (9223372036854775807 : Int64))), .second, .val (.long (p1 &&& (9223372036854775807 : Int64))), .second, .val (.long y28), .second, .val (.long y29), .second, .unset, .unset, .unset, .unset, .unset, .unset, .unset, .unset, .unset, .unset, .unset, .unset, .unset] [(.long (9223372036854775807 : Int64)), (.long p3)])) (fun t k => X29.ldc2Long hx hown (mvT hZ (hw _ (List.mem_of_getElem? (i := 0) rfl))) (g := (mkF m 46 #[.val (.long p0), .second, .val (.long p1), .second, .val (.int p2), .val (.long p3), .second, .val (.long p4), .second, .val (.int p5), .val (.long (p0 &&& (9223372036854775807 : Int64))), .second, .val (.long (p1 &&& (9223372036854775807 : Int64))), .second, .val (.long y28), .second, .val (.long y29), .second, .unset, .unset, .unset, .unset, .unset, .unset, .unset, .unset, .unset, .unset, .unset, .unset, .unset] [(.long p3)])) rfl (hb hby at_46) t k) ?_
      refine own_st (fr' := (mkF m 50 #[.val (.long p0), .second, .val (.long p1), .second, .val (.int p2), .val (.long p3), .second, .val (.long p4), .second, .val (.int p5), .val (.long (p0 &&& (9223372036854775807 : Int64))), .second, .val (.long (p1 &&& (9223372036854775807 : Int64))), .second, .val (.long y28), .second, .val (.long y29), .second, .unset, .unset, .unset, .unset, .unset, .unset, .unset, .unset, .unset, .unset, .unset, .unset, .unset] [(.long (p3 &&& (9223372036854775807 : Int64)))])) (fun t k => XS.land X29.here hx rfl (hb hby at_49) rfl k) ?_
      exact J30  (p3 &&& (9223372036854775807 : Int64)) trivial
    · refine own_st (fr' := (mkF m 39 #[.val (.long p0), .second, .val (.long p1), .second, .val (.int p2), .val (.long p3), .second, .val (.long p4), .second, .val (.int p5), .val (.long (p0 &&& (9223372036854775807 : Int64))), .second, .val (.long (p1 &&& (9223372036854775807 : Int64))), .second, .val (.long y28), .second, .val (.long y29), .second, .unset, .unset, .unset, .unset, .unset, .unset, .unset, .unset, .unset, .unset, .unset, .unset, .unset] [])) (fun t k => XS.ifNo X29.here hx rfl (hb hby at_36) rfl ((if0 _ _).trans (own_feq (x := (p5 &&& (1 : Int32))) (y := (0 : Int32)) hc31).1) k) ?_
      refine own_st (fr' := (mkF m 41 #[.val (.long p0), .second, .val (.long p1), .second, .val (.int p2), .val (.long p3), .second, .val (.long p4), .second, .val (.int p5), .val (.long (p0 &&& (9223372036854775807 : Int64))), .second, .val (.long (p1 &&& (9223372036854775807 : Int64))), .second, .val (.long y28), .second, .val (.long y29), .second, .unset, .unset, .unset, .unset, .unset, .unset, .unset, .unset, .unset, .unset, .unset, .unset, .unset] [(.long y28)])) (fun t k => XS.lload X29.here hx rfl (hb hby at_39) rfl  k) ?_
      refine own_st (fr' := (mkF m 50 #[.val (.long p0), .second, .val (.long p1), .second, .val (.int p2), .val (.long p3), .second, .val (.long p4), .second, .val (.int p5), .val (.long (p0 &&& (9223372036854775807 : Int64))), .second, .val (.long (p1 &&& (9223372036854775807 : Int64))), .second, .val (.long y28), .second, .val (.long y29), .second, .unset, .unset, .unset, .unset, .unset, .unset, .unset, .unset, .unset, .unset, .unset, .unset, .unset] [(.long y28)])) (fun t k => XS.goto X29.here hx rfl (pc0 := 41) (pc' := 50) rfl (hb hby at_41) (by decide) (by decide) k) ?_
      exact J30  y28 trivial
  intro z32_0 hz32
  refine own_st (fr' := (mkF m 52 #[.val (.long p0), .second, .val (.long p1), .second, .val (.int p2), .val (.long p3), .second, .val (.long p4), .second, .val (.int p5), .val (.long (p0 &&& (9223372036854775807 : Int64))), .second, .val (.long (p1 &&& (9223372036854775807 : Int64))), .second, .val (.long y28), .second, .val (.long y29), .second, .val (.long z32_0), .second, .unset, .unset, .unset, .unset, .unset, .unset, .unset, .unset, .unset, .unset, .unset] [])) (fun t k => XS.lstore X29.here hx rfl (hb hby at_50) rfl  (l' := #[.val (.long p0), .second, .val (.long p1), .second, .val (.int p2), .val (.long p3), .second, .val (.long p4), .second, .val (.int p5), .val (.long (p0 &&& (9223372036854775807 : Int64))), .second, .val (.long (p1 &&& (9223372036854775807 : Int64))), .second, .val (.long y28), .second, .val (.long y29), .second, .val (.long z32_0), .second, .unset, .unset, .unset, .unset, .unset, .unset, .unset, .unset, .unset, .unset, .unset]) rfl k) ?_
  refine own_st (fr' := (mkF m 54 #[.val (.long p0), .second, .val (.long p1), .second, .val (.int p2), .val (.long p3), .second, .val (.long p4), .second, .val (.int p5), .val (.long (p0 &&& (9223372036854775807 : Int64))), .second, .val (.long (p1 &&& (9223372036854775807 : Int64))), .second, .val (.long y28), .second, .val (.long y29), .second, .val (.long z32_0), .second, .unset, .unset, .unset, .unset, .unset, .unset, .unset, .unset, .unset, .unset, .unset] [(.int p5)])) (fun t k => XS.iload X29.here hx rfl (hb hby at_52) rfl  k) ?_
  refine own_st (fr' := (mkF m 55 #[.val (.long p0), .second, .val (.long p1), .second, .val (.int p2), .val (.long p3), .second, .val (.long p4), .second, .val (.int p5), .val (.long (p0 &&& (9223372036854775807 : Int64))), .second, .val (.long (p1 &&& (9223372036854775807 : Int64))), .second, .val (.long y28), .second, .val (.long y29), .second, .val (.long z32_0), .second, .unset, .unset, .unset, .unset, .unset, .unset, .unset, .unset, .unset, .unset, .unset] [(.int (2 : Int32)), (.int p5)])) (fun t k => XS.iconst X29.here hx rfl (hb hby at_54) k) ?_
  refine own_st (fr' := (mkF m 56 #[.val (.long p0), .second, .val (.long p1), .second, .val (.int p2), .val (.long p3), .second, .val (.long p4), .second, .val (.int p5), .val (.long (p0 &&& (9223372036854775807 : Int64))), .second, .val (.long (p1 &&& (9223372036854775807 : Int64))), .second, .val (.long y28), .second, .val (.long y29), .second, .val (.long z32_0), .second, .unset, .unset, .unset, .unset, .unset, .unset, .unset, .unset, .unset, .unset, .unset] [(.int (p5 &&& (2 : Int32)))])) (fun t k => XS.iand X29.here hx rfl (hb hby at_55) rfl k) ?_
  suffices J33 : ∀ (z35_0 : Int64), (True) → Go p e below s room_1.cells room_1.slots (Q_law Z p0 p1 p2 p3 p4 p5 ca fc h0 n0) T29 (mkF m 70 #[.val (.long p0), .second, .val (.long p1), .second, .val (.int p2), .val (.long p3), .second, .val (.long p4), .second, .val (.int p5), .val (.long (p0 &&& (9223372036854775807 : Int64))), .second, .val (.long (p1 &&& (9223372036854775807 : Int64))), .second, .val (.long y28), .second, .val (.long y29), .second, .val (.long z32_0), .second, .unset, .unset, .unset, .unset, .unset, .unset, .unset, .unset, .unset, .unset, .unset] [(.long z35_0)]) by
    by_cases hc34 : (p5 &&& (2 : Int32)).toInt = 0
    · refine own_st (fr' := (mkF m 64 #[.val (.long p0), .second, .val (.long p1), .second, .val (.int p2), .val (.long p3), .second, .val (.long p4), .second, .val (.int p5), .val (.long (p0 &&& (9223372036854775807 : Int64))), .second, .val (.long (p1 &&& (9223372036854775807 : Int64))), .second, .val (.long y28), .second, .val (.long y29), .second, .val (.long z32_0), .second, .unset, .unset, .unset, .unset, .unset, .unset, .unset, .unset, .unset, .unset, .unset] [])) (fun t k => XS.ifYes X29.here hx rfl (pc0 := 56) (pc' := 64) rfl (hb hby at_56) rfl ((if0 _ _).trans (own_teq (x := (p5 &&& (2 : Int32))) (y := (0 : Int32)) hc34).1) (by decide) (by decide) k) ?_
      refine own_st (fr' := (mkF m 66 #[.val (.long p0), .second, .val (.long p1), .second, .val (.int p2), .val (.long p3), .second, .val (.long p4), .second, .val (.int p5), .val (.long (p0 &&& (9223372036854775807 : Int64))), .second, .val (.long (p1 &&& (9223372036854775807 : Int64))), .second, .val (.long y28), .second, .val (.long y29), .second, .val (.long z32_0), .second, .unset, .unset, .unset, .unset, .unset, .unset, .unset, .unset, .unset, .unset, .unset] [(.long p4)])) (fun t k => XS.lload X29.here hx rfl (hb hby at_64) rfl  k) ?_
      refine own_st (fr' := (mkF m 69 #[.val (.long p0), .second, .val (.long p1), .second, .val (.int p2), .val (.long p3), .second, .val (.long p4), .second, .val (.int p5), .val (.long (p0 &&& (9223372036854775807 : Int64))), .second, .val (.long (p1 &&& (9223372036854775807 : Int64))), .second, .val (.long y28), .second, .val (.long y29), .second, .val (.long z32_0), .second, .unset, .unset, .unset, .unset, .unset, .unset, .unset, .unset, .unset, .unset, .unset] [(.long (9223372036854775807 : Int64)), (.long p4)])) (fun t k => X29.ldc2Long hx hown (mvT hZ (hw _ (List.mem_of_getElem? (i := 0) rfl))) (g := (mkF m 66 #[.val (.long p0), .second, .val (.long p1), .second, .val (.int p2), .val (.long p3), .second, .val (.long p4), .second, .val (.int p5), .val (.long (p0 &&& (9223372036854775807 : Int64))), .second, .val (.long (p1 &&& (9223372036854775807 : Int64))), .second, .val (.long y28), .second, .val (.long y29), .second, .val (.long z32_0), .second, .unset, .unset, .unset, .unset, .unset, .unset, .unset, .unset, .unset, .unset, .unset] [(.long p4)])) rfl (hb hby at_66) t k) ?_
      refine own_st (fr' := (mkF m 70 #[.val (.long p0), .second, .val (.long p1), .second, .val (.int p2), .val (.long p3), .second, .val (.long p4), .second, .val (.int p5), .val (.long (p0 &&& (9223372036854775807 : Int64))), .second, .val (.long (p1 &&& (9223372036854775807 : Int64))), .second, .val (.long y28), .second, .val (.long y29), .second, .val (.long z32_0), .second, .unset, .unset, .unset, .unset, .unset, .unset, .unset, .unset, .unset, .unset, .unset] [(.long (p4 &&& (9223372036854775807 : Int64)))])) (fun t k => XS.land X29.here hx rfl (hb hby at_69) rfl k) ?_
      exact J33  (p4 &&& (9223372036854775807 : Int64)) trivial
    · refine own_st (fr' := (mkF m 59 #[.val (.long p0), .second, .val (.long p1), .second, .val (.int p2), .val (.long p3), .second, .val (.long p4), .second, .val (.int p5), .val (.long (p0 &&& (9223372036854775807 : Int64))), .second, .val (.long (p1 &&& (9223372036854775807 : Int64))), .second, .val (.long y28), .second, .val (.long y29), .second, .val (.long z32_0), .second, .unset, .unset, .unset, .unset, .unset, .unset, .unset, .unset, .unset, .unset, .unset] [])) (fun t k => XS.ifNo X29.here hx rfl (hb hby at_56) rfl ((if0 _ _).trans (own_feq (x := (p5 &&& (2 : Int32))) (y := (0 : Int32)) hc34).1) k) ?_
      refine own_st (fr' := (mkF m 61 #[.val (.long p0), .second, .val (.long p1), .second, .val (.int p2), .val (.long p3), .second, .val (.long p4), .second, .val (.int p5), .val (.long (p0 &&& (9223372036854775807 : Int64))), .second, .val (.long (p1 &&& (9223372036854775807 : Int64))), .second, .val (.long y28), .second, .val (.long y29), .second, .val (.long z32_0), .second, .unset, .unset, .unset, .unset, .unset, .unset, .unset, .unset, .unset, .unset, .unset] [(.long y29)])) (fun t k => XS.lload X29.here hx rfl (hb hby at_59) rfl  k) ?_
      refine own_st (fr' := (mkF m 70 #[.val (.long p0), .second, .val (.long p1), .second, .val (.int p2), .val (.long p3), .second, .val (.long p4), .second, .val (.int p5), .val (.long (p0 &&& (9223372036854775807 : Int64))), .second, .val (.long (p1 &&& (9223372036854775807 : Int64))), .second, .val (.long y28), .second, .val (.long y29), .second, .val (.long z32_0), .second, .unset, .unset, .unset, .unset, .unset, .unset, .unset, .unset, .unset, .unset, .unset] [(.long y29)])) (fun t k => XS.goto X29.here hx rfl (pc0 := 61) (pc' := 70) rfl (hb hby at_61) (by decide) (by decide) k) ?_
      exact J33  y29 trivial
  intro z35_0 hz35
  refine own_st (fr' := (mkF m 72 #[.val (.long p0), .second, .val (.long p1), .second, .val (.int p2), .val (.long p3), .second, .val (.long p4), .second, .val (.int p5), .val (.long (p0 &&& (9223372036854775807 : Int64))), .second, .val (.long (p1 &&& (9223372036854775807 : Int64))), .second, .val (.long y28), .second, .val (.long y29), .second, .val (.long z32_0), .second, .val (.long z35_0), .second, .unset, .unset, .unset, .unset, .unset, .unset, .unset, .unset, .unset] [])) (fun t k => XS.lstore X29.here hx rfl (hb hby at_70) rfl  (l' := #[.val (.long p0), .second, .val (.long p1), .second, .val (.int p2), .val (.long p3), .second, .val (.long p4), .second, .val (.int p5), .val (.long (p0 &&& (9223372036854775807 : Int64))), .second, .val (.long (p1 &&& (9223372036854775807 : Int64))), .second, .val (.long y28), .second, .val (.long y29), .second, .val (.long z32_0), .second, .val (.long z35_0), .second, .unset, .unset, .unset, .unset, .unset, .unset, .unset, .unset, .unset]) rfl k) ?_
  refine own_st (fr' := (mkF m 74 #[.val (.long p0), .second, .val (.long p1), .second, .val (.int p2), .val (.long p3), .second, .val (.long p4), .second, .val (.int p5), .val (.long (p0 &&& (9223372036854775807 : Int64))), .second, .val (.long (p1 &&& (9223372036854775807 : Int64))), .second, .val (.long y28), .second, .val (.long y29), .second, .val (.long z32_0), .second, .val (.long z35_0), .second, .unset, .unset, .unset, .unset, .unset, .unset, .unset, .unset, .unset] [(.long z32_0)])) (fun t k => XS.lload X29.here hx rfl (hb hby at_72) rfl  k) ?_
  refine own_st (fr' := (mkF m 76 #[.val (.long p0), .second, .val (.long p1), .second, .val (.int p2), .val (.long p3), .second, .val (.long p4), .second, .val (.int p5), .val (.long (p0 &&& (9223372036854775807 : Int64))), .second, .val (.long (p1 &&& (9223372036854775807 : Int64))), .second, .val (.long y28), .second, .val (.long y29), .second, .val (.long z32_0), .second, .val (.long z35_0), .second, .unset, .unset, .unset, .unset, .unset, .unset, .unset, .unset, .unset] [(.long z35_0), (.long z32_0)])) (fun t k => XS.lload X29.here hx rfl (hb hby at_74) rfl  k) ?_
  refine own_callS X29 hx hZ (y := (⟨"java/lang/Math", "min", "(JJ)J"⟩ : MethodName)) hown (hw _ (List.mem_of_getElem? (i := 1) rfl)) (hw _ (List.mem_of_getElem? (i := 2) rfl)) (hw _ (List.mem_of_getElem? (i := 3) rfl)) (hw _ (List.mem_of_getElem? (i := 4) rfl)) (by decide) (argsL := [(.long z32_0), (.long z35_0)]) (rest := []) (W := 0) (rm_min l Z a0 hw [] z32_0 z35_0 h0 n0 Z0 ) eq29 (by rw [hml]; rfl) (lenOf pd_2 rfl) rfl (Nat.le_of_eq rfl) (hb hby at_76) (by decide) (by decide) (by decide) (by decide) ?_
  intro v36 T36 L36 X36 hQ36
  obtain ⟨⟨y36, rfl⟩, Nq36, eq36⟩ := hQ36
  have N36 := Fr.app N29 Nq36
  refine own_st (fr' := (mkF m 81 #[.val (.long p0), .second, .val (.long p1), .second, .val (.int p2), .val (.long p3), .second, .val (.long p4), .second, .val (.int p5), .val (.long (p0 &&& (9223372036854775807 : Int64))), .second, .val (.long (p1 &&& (9223372036854775807 : Int64))), .second, .val (.long y28), .second, .val (.long y29), .second, .val (.long z32_0), .second, .val (.long z35_0), .second, .val (.long y36), .second, .unset, .unset, .unset, .unset, .unset, .unset, .unset] [])) (fun t k => XS.lstore X36.here hx rfl (hb hby at_79) rfl  (l' := #[.val (.long p0), .second, .val (.long p1), .second, .val (.int p2), .val (.long p3), .second, .val (.long p4), .second, .val (.int p5), .val (.long (p0 &&& (9223372036854775807 : Int64))), .second, .val (.long (p1 &&& (9223372036854775807 : Int64))), .second, .val (.long y28), .second, .val (.long y29), .second, .val (.long z32_0), .second, .val (.long z35_0), .second, .val (.long y36), .second, .unset, .unset, .unset, .unset, .unset, .unset, .unset]) rfl k) ?_
  refine own_st (fr' := (mkF m 83 #[.val (.long p0), .second, .val (.long p1), .second, .val (.int p2), .val (.long p3), .second, .val (.long p4), .second, .val (.int p5), .val (.long (p0 &&& (9223372036854775807 : Int64))), .second, .val (.long (p1 &&& (9223372036854775807 : Int64))), .second, .val (.long y28), .second, .val (.long y29), .second, .val (.long z32_0), .second, .val (.long z35_0), .second, .val (.long y36), .second, .unset, .unset, .unset, .unset, .unset, .unset, .unset] [(.long z32_0)])) (fun t k => XS.lload X36.here hx rfl (hb hby at_81) rfl  k) ?_
  refine own_st (fr' := (mkF m 85 #[.val (.long p0), .second, .val (.long p1), .second, .val (.int p2), .val (.long p3), .second, .val (.long p4), .second, .val (.int p5), .val (.long (p0 &&& (9223372036854775807 : Int64))), .second, .val (.long (p1 &&& (9223372036854775807 : Int64))), .second, .val (.long y28), .second, .val (.long y29), .second, .val (.long z32_0), .second, .val (.long z35_0), .second, .val (.long y36), .second, .unset, .unset, .unset, .unset, .unset, .unset, .unset] [(.long z35_0), (.long z32_0)])) (fun t k => XS.lload X36.here hx rfl (hb hby at_83) rfl  k) ?_
  refine own_callS X36 hx hZ (y := (⟨"java/lang/Math", "max", "(JJ)J"⟩ : MethodName)) hown (hw _ (List.mem_of_getElem? (i := 5) rfl)) (hw _ (List.mem_of_getElem? (i := 6) rfl)) (hw _ (List.mem_of_getElem? (i := 3) rfl)) (hw _ (List.mem_of_getElem? (i := 7) rfl)) (by decide) (argsL := [(.long z32_0), (.long z35_0)]) (rest := []) (W := 0) (rm_max l Z a0 hw [] z32_0 z35_0 h0 n0 Z0 ) eq36 (by rw [hml]; rfl) (lenOf pd_2 rfl) rfl (Nat.le_of_eq rfl) (hb hby at_85) (by decide) (by decide) (by decide) (by decide) ?_
  intro v37 T37 L37 X37 hQ37
  obtain ⟨⟨y37, rfl⟩, Nq37, eq37⟩ := hQ37
  have N37 := Fr.app N36 Nq37
  refine own_st (fr' := (mkF m 90 #[.val (.long p0), .second, .val (.long p1), .second, .val (.int p2), .val (.long p3), .second, .val (.long p4), .second, .val (.int p5), .val (.long (p0 &&& (9223372036854775807 : Int64))), .second, .val (.long (p1 &&& (9223372036854775807 : Int64))), .second, .val (.long y28), .second, .val (.long y29), .second, .val (.long z32_0), .second, .val (.long z35_0), .second, .val (.long y36), .second, .val (.long y37), .second, .unset, .unset, .unset, .unset, .unset] [])) (fun t k => XS.lstore X37.here hx rfl (hb hby at_88) rfl  (l' := #[.val (.long p0), .second, .val (.long p1), .second, .val (.int p2), .val (.long p3), .second, .val (.long p4), .second, .val (.int p5), .val (.long (p0 &&& (9223372036854775807 : Int64))), .second, .val (.long (p1 &&& (9223372036854775807 : Int64))), .second, .val (.long y28), .second, .val (.long y29), .second, .val (.long z32_0), .second, .val (.long z35_0), .second, .val (.long y36), .second, .val (.long y37), .second, .unset, .unset, .unset, .unset, .unset]) rfl k) ?_
  refine own_st (fr' := (mkF m 92 #[.val (.long p0), .second, .val (.long p1), .second, .val (.int p2), .val (.long p3), .second, .val (.long p4), .second, .val (.int p5), .val (.long (p0 &&& (9223372036854775807 : Int64))), .second, .val (.long (p1 &&& (9223372036854775807 : Int64))), .second, .val (.long y28), .second, .val (.long y29), .second, .val (.long z32_0), .second, .val (.long z35_0), .second, .val (.long y36), .second, .val (.long y37), .second, .unset, .unset, .unset, .unset, .unset] [(.int p5)])) (fun t k => XS.iload X37.here hx rfl (hb hby at_90) rfl  k) ?_
  refine own_st (fr' := (mkF m 93 #[.val (.long p0), .second, .val (.long p1), .second, .val (.int p2), .val (.long p3), .second, .val (.long p4), .second, .val (.int p5), .val (.long (p0 &&& (9223372036854775807 : Int64))), .second, .val (.long (p1 &&& (9223372036854775807 : Int64))), .second, .val (.long y28), .second, .val (.long y29), .second, .val (.long z32_0), .second, .val (.long z35_0), .second, .val (.long y36), .second, .val (.long y37), .second, .unset, .unset, .unset, .unset, .unset] [(.int (4 : Int32)), (.int p5)])) (fun t k => XS.iconst X37.here hx rfl (hb hby at_92) k) ?_
  refine own_st (fr' := (mkF m 94 #[.val (.long p0), .second, .val (.long p1), .second, .val (.int p2), .val (.long p3), .second, .val (.long p4), .second, .val (.int p5), .val (.long (p0 &&& (9223372036854775807 : Int64))), .second, .val (.long (p1 &&& (9223372036854775807 : Int64))), .second, .val (.long y28), .second, .val (.long y29), .second, .val (.long z32_0), .second, .val (.long z35_0), .second, .val (.long y36), .second, .val (.long y37), .second, .unset, .unset, .unset, .unset, .unset] [(.int (p5 &&& (4 : Int32)))])) (fun t k => XS.iand X37.here hx rfl (hb hby at_93) rfl k) ?_
  suffices J38 : ∀ (z40_0 : Int32), (True) → Go p e below s room_1.cells room_1.slots (Q_law Z p0 p1 p2 p3 p4 p5 ca fc h0 n0) T37 (mkF m 104 #[.val (.long p0), .second, .val (.long p1), .second, .val (.int p2), .val (.long p3), .second, .val (.long p4), .second, .val (.int p5), .val (.long (p0 &&& (9223372036854775807 : Int64))), .second, .val (.long (p1 &&& (9223372036854775807 : Int64))), .second, .val (.long y28), .second, .val (.long y29), .second, .val (.long z32_0), .second, .val (.long z35_0), .second, .val (.long y36), .second, .val (.long y37), .second, .unset, .unset, .unset, .unset, .unset] [(.int z40_0)]) by
    by_cases hc39 : (p5 &&& (4 : Int32)).toInt = 0
    · refine own_st (fr' := (mkF m 102 #[.val (.long p0), .second, .val (.long p1), .second, .val (.int p2), .val (.long p3), .second, .val (.long p4), .second, .val (.int p5), .val (.long (p0 &&& (9223372036854775807 : Int64))), .second, .val (.long (p1 &&& (9223372036854775807 : Int64))), .second, .val (.long y28), .second, .val (.long y29), .second, .val (.long z32_0), .second, .val (.long z35_0), .second, .val (.long y36), .second, .val (.long y37), .second, .unset, .unset, .unset, .unset, .unset] [])) (fun t k => XS.ifYes X37.here hx rfl (pc0 := 94) (pc' := 102) rfl (hb hby at_94) rfl ((if0 _ _).trans (own_teq (x := (p5 &&& (4 : Int32))) (y := (0 : Int32)) hc39).1) (by decide) (by decide) k) ?_
      refine own_st (fr' := (mkF m 104 #[.val (.long p0), .second, .val (.long p1), .second, .val (.int p2), .val (.long p3), .second, .val (.long p4), .second, .val (.int p5), .val (.long (p0 &&& (9223372036854775807 : Int64))), .second, .val (.long (p1 &&& (9223372036854775807 : Int64))), .second, .val (.long y28), .second, .val (.long y29), .second, .val (.long z32_0), .second, .val (.long z35_0), .second, .val (.long y36), .second, .val (.long y37), .second, .unset, .unset, .unset, .unset, .unset] [(.int p5)])) (fun t k => XS.iload X37.here hx rfl (hb hby at_102) rfl  k) ?_
      exact J38  p5 trivial
    · refine own_st (fr' := (mkF m 97 #[.val (.long p0), .second, .val (.long p1), .second, .val (.int p2), .val (.long p3), .second, .val (.long p4), .second, .val (.int p5), .val (.long (p0 &&& (9223372036854775807 : Int64))), .second, .val (.long (p1 &&& (9223372036854775807 : Int64))), .second, .val (.long y28), .second, .val (.long y29), .second, .val (.long z32_0), .second, .val (.long z35_0), .second, .val (.long y36), .second, .val (.long y37), .second, .unset, .unset, .unset, .unset, .unset] [])) (fun t k => XS.ifNo X37.here hx rfl (hb hby at_94) rfl ((if0 _ _).trans (own_feq (x := (p5 &&& (4 : Int32))) (y := (0 : Int32)) hc39).1) k) ?_
      refine own_st (fr' := (mkF m 99 #[.val (.long p0), .second, .val (.long p1), .second, .val (.int p2), .val (.long p3), .second, .val (.long p4), .second, .val (.int p5), .val (.long (p0 &&& (9223372036854775807 : Int64))), .second, .val (.long (p1 &&& (9223372036854775807 : Int64))), .second, .val (.long y28), .second, .val (.long y29), .second, .val (.long z32_0), .second, .val (.long z35_0), .second, .val (.long y36), .second, .val (.long y37), .second, .unset, .unset, .unset, .unset, .unset] [(.int p2)])) (fun t k => XS.iload X37.here hx rfl (hb hby at_97) rfl  k) ?_
      refine own_st (fr' := (mkF m 104 #[.val (.long p0), .second, .val (.long p1), .second, .val (.int p2), .val (.long p3), .second, .val (.long p4), .second, .val (.int p5), .val (.long (p0 &&& (9223372036854775807 : Int64))), .second, .val (.long (p1 &&& (9223372036854775807 : Int64))), .second, .val (.long y28), .second, .val (.long y29), .second, .val (.long z32_0), .second, .val (.long z35_0), .second, .val (.long y36), .second, .val (.long y37), .second, .unset, .unset, .unset, .unset, .unset] [(.int p2)])) (fun t k => XS.goto X37.here hx rfl (pc0 := 99) (pc' := 104) rfl (hb hby at_99) (by decide) (by decide) k) ?_
      exact J38  p2 trivial
  intro z40_0 hz40
  refine own_st (fr' := (mkF m 106 #[.val (.long p0), .second, .val (.long p1), .second, .val (.int p2), .val (.long p3), .second, .val (.long p4), .second, .val (.int p5), .val (.long (p0 &&& (9223372036854775807 : Int64))), .second, .val (.long (p1 &&& (9223372036854775807 : Int64))), .second, .val (.long y28), .second, .val (.long y29), .second, .val (.long z32_0), .second, .val (.long z35_0), .second, .val (.long y36), .second, .val (.long y37), .second, .val (.int z40_0), .unset, .unset, .unset, .unset] [])) (fun t k => XS.istore X37.here hx rfl (hb hby at_104) rfl  (l' := #[.val (.long p0), .second, .val (.long p1), .second, .val (.int p2), .val (.long p3), .second, .val (.long p4), .second, .val (.int p5), .val (.long (p0 &&& (9223372036854775807 : Int64))), .second, .val (.long (p1 &&& (9223372036854775807 : Int64))), .second, .val (.long y28), .second, .val (.long y29), .second, .val (.long z32_0), .second, .val (.long z35_0), .second, .val (.long y36), .second, .val (.long y37), .second, .val (.int z40_0), .unset, .unset, .unset, .unset]) rfl k) ?_
  refine own_st (fr' := (mkF m 108 #[.val (.long p0), .second, .val (.long p1), .second, .val (.int p2), .val (.long p3), .second, .val (.long p4), .second, .val (.int p5), .val (.long (p0 &&& (9223372036854775807 : Int64))), .second, .val (.long (p1 &&& (9223372036854775807 : Int64))), .second, .val (.long y28), .second, .val (.long y29), .second, .val (.long z32_0), .second, .val (.long z35_0), .second, .val (.long y36), .second, .val (.long y37), .second, .val (.int z40_0), .unset, .unset, .unset, .unset] [(.int p5)])) (fun t k => XS.iload X37.here hx rfl (hb hby at_106) rfl  k) ?_
  refine own_st (fr' := (mkF m 109 #[.val (.long p0), .second, .val (.long p1), .second, .val (.int p2), .val (.long p3), .second, .val (.long p4), .second, .val (.int p5), .val (.long (p0 &&& (9223372036854775807 : Int64))), .second, .val (.long (p1 &&& (9223372036854775807 : Int64))), .second, .val (.long y28), .second, .val (.long y29), .second, .val (.long z32_0), .second, .val (.long z35_0), .second, .val (.long y36), .second, .val (.long y37), .second, .val (.int z40_0), .unset, .unset, .unset, .unset] [(.int (3 : Int32)), (.int p5)])) (fun t k => XS.iconst X37.here hx rfl (hb hby at_108) k) ?_
  refine own_st (fr' := (mkF m 110 #[.val (.long p0), .second, .val (.long p1), .second, .val (.int p2), .val (.long p3), .second, .val (.long p4), .second, .val (.int p5), .val (.long (p0 &&& (9223372036854775807 : Int64))), .second, .val (.long (p1 &&& (9223372036854775807 : Int64))), .second, .val (.long y28), .second, .val (.long y29), .second, .val (.long z32_0), .second, .val (.long z35_0), .second, .val (.long y36), .second, .val (.long y37), .second, .val (.int z40_0), .unset, .unset, .unset, .unset] [(.int ((p5.toUInt32 >>> ((3 : Int32) &&& 31).toUInt32).toInt32))])) (fun t k => XS.iushr X37.here hx rfl (hb hby at_109) rfl k) ?_
  refine own_st (fr' := (mkF m 111 #[.val (.long p0), .second, .val (.long p1), .second, .val (.int p2), .val (.long p3), .second, .val (.long p4), .second, .val (.int p5), .val (.long (p0 &&& (9223372036854775807 : Int64))), .second, .val (.long (p1 &&& (9223372036854775807 : Int64))), .second, .val (.long y28), .second, .val (.long y29), .second, .val (.long z32_0), .second, .val (.long z35_0), .second, .val (.long y36), .second, .val (.long y37), .second, .val (.int z40_0), .unset, .unset, .unset, .unset] [(.int (3 : Int32)), (.int ((p5.toUInt32 >>> ((3 : Int32) &&& 31).toUInt32).toInt32))])) (fun t k => XS.iconst X37.here hx rfl (hb hby at_110) k) ?_
  refine own_st (fr' := (mkF m 112 #[.val (.long p0), .second, .val (.long p1), .second, .val (.int p2), .val (.long p3), .second, .val (.long p4), .second, .val (.int p5), .val (.long (p0 &&& (9223372036854775807 : Int64))), .second, .val (.long (p1 &&& (9223372036854775807 : Int64))), .second, .val (.long y28), .second, .val (.long y29), .second, .val (.long z32_0), .second, .val (.long z35_0), .second, .val (.long y36), .second, .val (.long y37), .second, .val (.int z40_0), .unset, .unset, .unset, .unset] [(.int (((p5.toUInt32 >>> ((3 : Int32) &&& 31).toUInt32).toInt32) &&& (3 : Int32)))])) (fun t k => XS.iand X37.here hx rfl (hb hby at_111) rfl k) ?_
  refine own_st (fr' := (mkF m 114 #[.val (.long p0), .second, .val (.long p1), .second, .val (.int p2), .val (.long p3), .second, .val (.long p4), .second, .val (.int p5), .val (.long (p0 &&& (9223372036854775807 : Int64))), .second, .val (.long (p1 &&& (9223372036854775807 : Int64))), .second, .val (.long y28), .second, .val (.long y29), .second, .val (.long z32_0), .second, .val (.long z35_0), .second, .val (.long y36), .second, .val (.long y37), .second, .val (.int z40_0), .val (.int (((p5.toUInt32 >>> ((3 : Int32) &&& 31).toUInt32).toInt32) &&& (3 : Int32))), .unset, .unset, .unset] [])) (fun t k => XS.istore X37.here hx rfl (hb hby at_112) rfl  (l' := #[.val (.long p0), .second, .val (.long p1), .second, .val (.int p2), .val (.long p3), .second, .val (.long p4), .second, .val (.int p5), .val (.long (p0 &&& (9223372036854775807 : Int64))), .second, .val (.long (p1 &&& (9223372036854775807 : Int64))), .second, .val (.long y28), .second, .val (.long y29), .second, .val (.long z32_0), .second, .val (.long z35_0), .second, .val (.long y36), .second, .val (.long y37), .second, .val (.int z40_0), .val (.int (((p5.toUInt32 >>> ((3 : Int32) &&& 31).toUInt32).toInt32) &&& (3 : Int32))), .unset, .unset, .unset]) rfl k) ?_
  obtain ⟨T41, h41, X41, e41, E41, A41, D41, -, st41⟩ := newO X37 hx hZ hown (hw _ (List.mem_of_getElem? (i := 8) rfl)) (hw _ (List.mem_of_getElem? (i := 9) rfl)) (hw _ (List.mem_of_getElem? (i := 10) rfl)) eq37 (g := (mkF m 114 #[.val (.long p0), .second, .val (.long p1), .second, .val (.int p2), .val (.long p3), .second, .val (.long p4), .second, .val (.int p5), .val (.long (p0 &&& (9223372036854775807 : Int64))), .second, .val (.long (p1 &&& (9223372036854775807 : Int64))), .second, .val (.long y28), .second, .val (.long y29), .second, .val (.long z32_0), .second, .val (.long z35_0), .second, .val (.long y36), .second, .val (.long y37), .second, .val (.int z40_0), .val (.int (((p5.toUInt32 >>> ((3 : Int32) &&& 31).toUInt32).toInt32) &&& (3 : Int32))), .unset, .unset, .unset] [])) rfl (hb hby at_114) (by decide) (by decide)
  obtain ⟨b41, g41⟩ : ∃ z, z = h0.size := ⟨_, rfl⟩
  rw [← g41] at A41 D41 st41
  have ne41_ca : ca ≠ b41 := Nat.ne_of_lt (Nat.lt_of_lt_of_eq V_c.lt g41.symm)
  have ge_b41 : n0 ≤ b41 := Nat.le_trans Z0 (Nat.le_of_eq g41.symm)
  have sz_b41 : h0.size ≤ b41 := Nat.le_trans (Keep.refl h0 []).1 (Nat.le_of_eq g41.symm)
  have F41_first : Fld Z h41 b41 "com/example/timed_net_processes/timednetprocesses/StepRange" "first" "J" (.long (0 : Int64)) := D41 (Or.inr (hw _ (List.mem_of_getElem? (i := 18) rfl))) (ty := .long) (by decide)
  have F41_last : Fld Z h41 b41 "com/example/timed_net_processes/timednetprocesses/StepRange" "last" "J" (.long (0 : Int64)) := D41 (Or.inr (hw _ (List.mem_of_getElem? (i := 20) rfl))) (ty := .long) (by decide)
  have F41_transition : Fld Z h41 b41 "com/example/timed_net_processes/timednetprocesses/StepRange" "transition" "I" (.int (0 : Int32)) := D41 (Or.inr (hw _ (List.mem_of_getElem? (i := 22) rfl))) (ty := .int) (by decide)
  refine own_st (fr' := (mkF m 117 #[.val (.long p0), .second, .val (.long p1), .second, .val (.int p2), .val (.long p3), .second, .val (.long p4), .second, .val (.int p5), .val (.long (p0 &&& (9223372036854775807 : Int64))), .second, .val (.long (p1 &&& (9223372036854775807 : Int64))), .second, .val (.long y28), .second, .val (.long y29), .second, .val (.long z32_0), .second, .val (.long z35_0), .second, .val (.long y36), .second, .val (.long y37), .second, .val (.int z40_0), .val (.int (((p5.toUInt32 >>> ((3 : Int32) &&& 31).toUInt32).toInt32) &&& (3 : Int32))), .unset, .unset, .unset] [(.ref b41)])) st41 ?_
  refine own_st (fr' := (mkF m 118 #[.val (.long p0), .second, .val (.long p1), .second, .val (.int p2), .val (.long p3), .second, .val (.long p4), .second, .val (.int p5), .val (.long (p0 &&& (9223372036854775807 : Int64))), .second, .val (.long (p1 &&& (9223372036854775807 : Int64))), .second, .val (.long y28), .second, .val (.long y29), .second, .val (.long z32_0), .second, .val (.long z35_0), .second, .val (.long y36), .second, .val (.long y37), .second, .val (.int z40_0), .val (.int (((p5.toUInt32 >>> ((3 : Int32) &&& 31).toUInt32).toInt32) &&& (3 : Int32))), .unset, .unset, .unset] [(.ref b41), (.ref b41)])) (fun t k => XS.dup X41.here hx rfl (hb hby at_117) rfl rfl k) ?_
  refine own_st (fr' := (mkF m 120 #[.val (.long p0), .second, .val (.long p1), .second, .val (.int p2), .val (.long p3), .second, .val (.long p4), .second, .val (.int p5), .val (.long (p0 &&& (9223372036854775807 : Int64))), .second, .val (.long (p1 &&& (9223372036854775807 : Int64))), .second, .val (.long y28), .second, .val (.long y29), .second, .val (.long z32_0), .second, .val (.long z35_0), .second, .val (.long y36), .second, .val (.long y37), .second, .val (.int z40_0), .val (.int (((p5.toUInt32 >>> ((3 : Int32) &&& 31).toUInt32).toInt32) &&& (3 : Int32))), .unset, .unset, .unset] [(.long y28), (.ref b41), (.ref b41)])) (fun t k => XS.lload X41.here hx rfl (hb hby at_118) rfl  k) ?_
  refine own_st (fr' := (mkF m 122 #[.val (.long p0), .second, .val (.long p1), .second, .val (.int p2), .val (.long p3), .second, .val (.long p4), .second, .val (.int p5), .val (.long (p0 &&& (9223372036854775807 : Int64))), .second, .val (.long (p1 &&& (9223372036854775807 : Int64))), .second, .val (.long y28), .second, .val (.long y29), .second, .val (.long z32_0), .second, .val (.long z35_0), .second, .val (.long y36), .second, .val (.long y37), .second, .val (.int z40_0), .val (.int (((p5.toUInt32 >>> ((3 : Int32) &&& 31).toUInt32).toInt32) &&& (3 : Int32))), .unset, .unset, .unset] [(.long y29), (.long y28), (.ref b41), (.ref b41)])) (fun t k => XS.lload X41.here hx rfl (hb hby at_120) rfl  k) ?_
  refine own_st (fr' := (mkF m 124 #[.val (.long p0), .second, .val (.long p1), .second, .val (.int p2), .val (.long p3), .second, .val (.long p4), .second, .val (.int p5), .val (.long (p0 &&& (9223372036854775807 : Int64))), .second, .val (.long (p1 &&& (9223372036854775807 : Int64))), .second, .val (.long y28), .second, .val (.long y29), .second, .val (.long z32_0), .second, .val (.long z35_0), .second, .val (.long y36), .second, .val (.long y37), .second, .val (.int z40_0), .val (.int (((p5.toUInt32 >>> ((3 : Int32) &&& 31).toUInt32).toInt32) &&& (3 : Int32))), .unset, .unset, .unset] [(.int p2), (.long y29), (.long y28), (.ref b41), (.ref b41)])) (fun t k => XS.iload X41.here hx rfl (hb hby at_122) rfl  k) ?_
  refine own_callN X41 hx hZ (y := (⟨"com/example/timed_net_processes/timednetprocesses/StepRange", "<init>", "(JJI)V"⟩ : MethodName)) hown rfl (hw _ (List.mem_of_getElem? (i := 11) rfl)) (hw _ (List.mem_of_getElem? (i := 12) rfl)) (hw _ (List.mem_of_getElem? (i := 10) rfl)) (hw _ (List.mem_of_getElem? (i := 13) rfl)) (by decide) (a := b41) (argsL := [(.long y28), (.long y29), (.int p2)]) (rest := [(.ref b41)]) (W := 1) (rm_init l Z a0 hw [] b41 y28 y29 p2 h41 n0 (Nat.le_trans Z0 E41.1) F41_first F41_last F41_transition A41 ge_b41) e41 (by rw [hml]; rfl) (lenOf pd_3 rfl) rfl (Nat.le_of_eq rfl) (hb hby at_124) (by decide) (by decide) (by decide) (by decide) ?_
  intro v42 T42 L42 X42 hQ42
  obtain ⟨rfl, Nq42, K42, Fc42_0, Fc42_1, Fc42_2⟩ := hQ42
  have N42 := Fr.app N37 Nq42
  refine own_st (fr' := (mkF m 129 #[.val (.long p0), .second, .val (.long p1), .second, .val (.int p2), .val (.long p3), .second, .val (.long p4), .second, .val (.int p5), .val (.long (p0 &&& (9223372036854775807 : Int64))), .second, .val (.long (p1 &&& (9223372036854775807 : Int64))), .second, .val (.long y28), .second, .val (.long y29), .second, .val (.long z32_0), .second, .val (.long z35_0), .second, .val (.long y36), .second, .val (.long y37), .second, .val (.int z40_0), .val (.int (((p5.toUInt32 >>> ((3 : Int32) &&& 31).toUInt32).toInt32) &&& (3 : Int32))), .val (.ref b41), .unset, .unset] [])) (fun t k => XS.astore X42.here hx rfl (hb hby at_127) rfl rfl (l' := #[.val (.long p0), .second, .val (.long p1), .second, .val (.int p2), .val (.long p3), .second, .val (.long p4), .second, .val (.int p5), .val (.long (p0 &&& (9223372036854775807 : Int64))), .second, .val (.long (p1 &&& (9223372036854775807 : Int64))), .second, .val (.long y28), .second, .val (.long y29), .second, .val (.long z32_0), .second, .val (.long z35_0), .second, .val (.long y36), .second, .val (.long y37), .second, .val (.int z40_0), .val (.int (((p5.toUInt32 >>> ((3 : Int32) &&& 31).toUInt32).toInt32) &&& (3 : Int32))), .val (.ref b41), .unset, .unset]) rfl k) ?_
  refine own_st (fr' := (mkF m 131 #[.val (.long p0), .second, .val (.long p1), .second, .val (.int p2), .val (.long p3), .second, .val (.long p4), .second, .val (.int p5), .val (.long (p0 &&& (9223372036854775807 : Int64))), .second, .val (.long (p1 &&& (9223372036854775807 : Int64))), .second, .val (.long y28), .second, .val (.long y29), .second, .val (.long z32_0), .second, .val (.long z35_0), .second, .val (.long y36), .second, .val (.long y37), .second, .val (.int z40_0), .val (.int (((p5.toUInt32 >>> ((3 : Int32) &&& 31).toUInt32).toInt32) &&& (3 : Int32))), .val (.ref b41), .unset, .unset] [(.int (((p5.toUInt32 >>> ((3 : Int32) &&& 31).toUInt32).toInt32) &&& (3 : Int32)))])) (fun t k => XS.iload X42.here hx rfl (hb hby at_129) rfl  k) ?_
  refine own_st (fr' := (mkF m 132 #[.val (.long p0), .second, .val (.long p1), .second, .val (.int p2), .val (.long p3), .second, .val (.long p4), .second, .val (.int p5), .val (.long (p0 &&& (9223372036854775807 : Int64))), .second, .val (.long (p1 &&& (9223372036854775807 : Int64))), .second, .val (.long y28), .second, .val (.long y29), .second, .val (.long z32_0), .second, .val (.long z35_0), .second, .val (.long y36), .second, .val (.long y37), .second, .val (.int z40_0), .val (.int (((p5.toUInt32 >>> ((3 : Int32) &&& 31).toUInt32).toInt32) &&& (3 : Int32))), .val (.ref b41), .unset, .unset] [(.int (2 : Int32)), (.int (((p5.toUInt32 >>> ((3 : Int32) &&& 31).toUInt32).toInt32) &&& (3 : Int32)))])) (fun t k => XS.iconst X42.here hx rfl (hb hby at_131) k) ?_
  by_cases hk2 : (((p5.toUInt32 >>> ((3 : Int32) &&& 31).toUInt32).toInt32) &&& (3 : Int32)).toInt = 2
  · refine own_st (fr' := (mkF m 135 #[.val (.long p0), .second, .val (.long p1), .second, .val (.int p2), .val (.long p3), .second, .val (.long p4), .second, .val (.int p5), .val (.long (p0 &&& (9223372036854775807 : Int64))), .second, .val (.long (p1 &&& (9223372036854775807 : Int64))), .second, .val (.long y28), .second, .val (.long y29), .second, .val (.long z32_0), .second, .val (.long z35_0), .second, .val (.long y36), .second, .val (.long y37), .second, .val (.int z40_0), .val (.int (((p5.toUInt32 >>> ((3 : Int32) &&& 31).toUInt32).toInt32) &&& (3 : Int32))), .val (.ref b41), .unset, .unset] [])) (fun t k => XS.icmpNo X42.here hx rfl (hb hby at_132) rfl (own_teq (x := (((p5.toUInt32 >>> ((3 : Int32) &&& 31).toUInt32).toInt32) &&& (3 : Int32))) (y := (2 : Int32)) hk2).2 k) ?_
    refine own_st (fr' := (mkF m 137 #[.val (.long p0), .second, .val (.long p1), .second, .val (.int p2), .val (.long p3), .second, .val (.long p4), .second, .val (.int p5), .val (.long (p0 &&& (9223372036854775807 : Int64))), .second, .val (.long (p1 &&& (9223372036854775807 : Int64))), .second, .val (.long y28), .second, .val (.long y29), .second, .val (.long z32_0), .second, .val (.long z35_0), .second, .val (.long y36), .second, .val (.long y37), .second, .val (.int z40_0), .val (.int (((p5.toUInt32 >>> ((3 : Int32) &&& 31).toUInt32).toInt32) &&& (3 : Int32))), .val (.ref b41), .unset, .unset] [(.ref b41)])) (fun t k => XS.aload X42.here hx rfl (hb hby at_135) rfl rfl k) ?_
    refine own_st (fr' := (mkF m 138 #[.val (.long p0), .second, .val (.long p1), .second, .val (.int p2), .val (.long p3), .second, .val (.long p4), .second, .val (.int p5), .val (.long (p0 &&& (9223372036854775807 : Int64))), .second, .val (.long (p1 &&& (9223372036854775807 : Int64))), .second, .val (.long y28), .second, .val (.long y29), .second, .val (.long z32_0), .second, .val (.long z35_0), .second, .val (.long y36), .second, .val (.long y37), .second, .val (.int z40_0), .val (.int (((p5.toUInt32 >>> ((3 : Int32) &&& 31).toUInt32).toInt32) &&& (3 : Int32))), .val (.ref b41), .unset, .unset] [.null, (.ref b41)])) (fun t k => XS.aconstNull X42.here hx rfl (hb hby at_137) k) ?_
    refine own_callV X42 hx hZ (y := (⟨"com/example/timed_net_processes/timednetprocesses/StepRange", "equals", "(Ljava/lang/Object;)Z"⟩ : MethodName)) (z := (⟨"com/example/timed_net_processes/timednetprocesses/StepRange", "equals", "(Ljava/lang/Object;)Z"⟩ : MethodName)) hown (hw _ (List.mem_of_getElem? (i := 23) rfl)) (hw _ (List.mem_of_getElem? (i := 24) rfl)) (notFace_of_selects (args := #[]) (mvT hZ (hw _ (List.mem_of_getElem? (i := 26) rfl)))) (hw _ (List.mem_of_getElem? (i := 26) rfl)) (hw _ (List.mem_of_getElem? (i := 25) rfl)) (hw _ (List.mem_of_getElem? (i := 10) rfl)) (hw _ (List.mem_of_getElem? (i := 27) rfl)) (by decide) (a := b41) (argsL := [.null]) (rest := []) (W := 0) (rm_eqnull l Z a0 hw [] b41 T42.heap n0 (Nat.le_trans (Nat.le_trans Z0 E41.1) K42.1) ) rfl (A41.keep K42) (by rw [hml]; rfl) (lenOf pd_4 rfl) rfl (Nat.le_of_eq rfl) (hb hby at_138) (by decide) (by decide) (by decide) (by decide) ?_
    intro v43 T43 L43 X43 hQ43
    obtain ⟨rfl, Nq43, eq43⟩ := hQ43
    have N43 := Fr.app N42 Nq43
    refine own_st (fr' := (mkF m 144 #[.val (.long p0), .second, .val (.long p1), .second, .val (.int p2), .val (.long p3), .second, .val (.long p4), .second, .val (.int p5), .val (.long (p0 &&& (9223372036854775807 : Int64))), .second, .val (.long (p1 &&& (9223372036854775807 : Int64))), .second, .val (.long y28), .second, .val (.long y29), .second, .val (.long z32_0), .second, .val (.long z35_0), .second, .val (.long y36), .second, .val (.long y37), .second, .val (.int z40_0), .val (.int (((p5.toUInt32 >>> ((3 : Int32) &&& 31).toUInt32).toInt32) &&& (3 : Int32))), .val (.ref b41), .unset, .unset] [])) (fun t k => XS.ifNo X43.here hx rfl (hb hby at_141) rfl ((if0 _ _).trans (own_teq (x := (0 : Int32)) (y := (0 : Int32)) (show 0 = 0 from rfl)).2) k) ?_
    refine own_st (fr' := (mkF m 145 #[.val (.long p0), .second, .val (.long p1), .second, .val (.int p2), .val (.long p3), .second, .val (.long p4), .second, .val (.int p5), .val (.long (p0 &&& (9223372036854775807 : Int64))), .second, .val (.long (p1 &&& (9223372036854775807 : Int64))), .second, .val (.long y28), .second, .val (.long y29), .second, .val (.long z32_0), .second, .val (.long z35_0), .second, .val (.long y36), .second, .val (.long y37), .second, .val (.int z40_0), .val (.int (((p5.toUInt32 >>> ((3 : Int32) &&& 31).toUInt32).toInt32) &&& (3 : Int32))), .val (.ref b41), .unset, .unset] [(.int (1 : Int32))])) (fun t k => XS.iconst X43.here hx rfl (hb hby at_144) k) ?_
    refine own_st (fr' := (mkF m 149 #[.val (.long p0), .second, .val (.long p1), .second, .val (.int p2), .val (.long p3), .second, .val (.long p4), .second, .val (.int p5), .val (.long (p0 &&& (9223372036854775807 : Int64))), .second, .val (.long (p1 &&& (9223372036854775807 : Int64))), .second, .val (.long y28), .second, .val (.long y29), .second, .val (.long z32_0), .second, .val (.long z35_0), .second, .val (.long y36), .second, .val (.long y37), .second, .val (.int z40_0), .val (.int (((p5.toUInt32 >>> ((3 : Int32) &&& 31).toUInt32).toInt32) &&& (3 : Int32))), .val (.ref b41), .unset, .unset] [(.int (1 : Int32))])) (fun t k => XS.goto X43.here hx rfl (pc0 := 145) (pc' := 149) rfl (hb hby at_145) (by decide) (by decide) k) ?_
    exact own_retZ X43 hx hlk hret (Or.inr rfl) (hb hby at_149) (by decide) (by decide) (⟨rfl, N43⟩)
  · refine own_st (fr' := (mkF m 150 #[.val (.long p0), .second, .val (.long p1), .second, .val (.int p2), .val (.long p3), .second, .val (.long p4), .second, .val (.int p5), .val (.long (p0 &&& (9223372036854775807 : Int64))), .second, .val (.long (p1 &&& (9223372036854775807 : Int64))), .second, .val (.long y28), .second, .val (.long y29), .second, .val (.long z32_0), .second, .val (.long z35_0), .second, .val (.long y36), .second, .val (.long y37), .second, .val (.int z40_0), .val (.int (((p5.toUInt32 >>> ((3 : Int32) &&& 31).toUInt32).toInt32) &&& (3 : Int32))), .val (.ref b41), .unset, .unset] [])) (fun t k => XS.icmpYes X42.here hx rfl (pc0 := 132) (pc' := 150) rfl (hb hby at_132) rfl (own_feq (x := (((p5.toUInt32 >>> ((3 : Int32) &&& 31).toUInt32).toInt32) &&& (3 : Int32))) (y := (2 : Int32)) hk2).2 (by decide) (by decide) k) ?_
    refine own_st (fr' := (mkF m 152 #[.val (.long p0), .second, .val (.long p1), .second, .val (.int p2), .val (.long p3), .second, .val (.long p4), .second, .val (.int p5), .val (.long (p0 &&& (9223372036854775807 : Int64))), .second, .val (.long (p1 &&& (9223372036854775807 : Int64))), .second, .val (.long y28), .second, .val (.long y29), .second, .val (.long z32_0), .second, .val (.long z35_0), .second, .val (.long y36), .second, .val (.long y37), .second, .val (.int z40_0), .val (.int (((p5.toUInt32 >>> ((3 : Int32) &&& 31).toUInt32).toInt32) &&& (3 : Int32))), .val (.ref b41), .unset, .unset] [(.int (((p5.toUInt32 >>> ((3 : Int32) &&& 31).toUInt32).toInt32) &&& (3 : Int32)))])) (fun t k => XS.iload X42.here hx rfl (hb hby at_150) rfl  k) ?_
    refine own_st (fr' := (mkF m 153 #[.val (.long p0), .second, .val (.long p1), .second, .val (.int p2), .val (.long p3), .second, .val (.long p4), .second, .val (.int p5), .val (.long (p0 &&& (9223372036854775807 : Int64))), .second, .val (.long (p1 &&& (9223372036854775807 : Int64))), .second, .val (.long y28), .second, .val (.long y29), .second, .val (.long z32_0), .second, .val (.long z35_0), .second, .val (.long y36), .second, .val (.long y37), .second, .val (.int z40_0), .val (.int (((p5.toUInt32 >>> ((3 : Int32) &&& 31).toUInt32).toInt32) &&& (3 : Int32))), .val (.ref b41), .unset, .unset] [(.int (3 : Int32)), (.int (((p5.toUInt32 >>> ((3 : Int32) &&& 31).toUInt32).toInt32) &&& (3 : Int32)))])) (fun t k => XS.iconst X42.here hx rfl (hb hby at_152) k) ?_
    by_cases hk3 : (((p5.toUInt32 >>> ((3 : Int32) &&& 31).toUInt32).toInt32) &&& (3 : Int32)).toInt = 3
    · refine own_st (fr' := (mkF m 156 #[.val (.long p0), .second, .val (.long p1), .second, .val (.int p2), .val (.long p3), .second, .val (.long p4), .second, .val (.int p5), .val (.long (p0 &&& (9223372036854775807 : Int64))), .second, .val (.long (p1 &&& (9223372036854775807 : Int64))), .second, .val (.long y28), .second, .val (.long y29), .second, .val (.long z32_0), .second, .val (.long z35_0), .second, .val (.long y36), .second, .val (.long y37), .second, .val (.int z40_0), .val (.int (((p5.toUInt32 >>> ((3 : Int32) &&& 31).toUInt32).toInt32) &&& (3 : Int32))), .val (.ref b41), .unset, .unset] [])) (fun t k => XS.icmpNo X42.here hx rfl (hb hby at_153) rfl (own_teq (x := (((p5.toUInt32 >>> ((3 : Int32) &&& 31).toUInt32).toInt32) &&& (3 : Int32))) (y := (3 : Int32)) hk3).2 k) ?_
      refine own_st (fr' := (mkF m 158 #[.val (.long p0), .second, .val (.long p1), .second, .val (.int p2), .val (.long p3), .second, .val (.long p4), .second, .val (.int p5), .val (.long (p0 &&& (9223372036854775807 : Int64))), .second, .val (.long (p1 &&& (9223372036854775807 : Int64))), .second, .val (.long y28), .second, .val (.long y29), .second, .val (.long z32_0), .second, .val (.long z35_0), .second, .val (.long y36), .second, .val (.long y37), .second, .val (.int z40_0), .val (.int (((p5.toUInt32 >>> ((3 : Int32) &&& 31).toUInt32).toInt32) &&& (3 : Int32))), .val (.ref b41), .unset, .unset] [(.ref b41)])) (fun t k => XS.aload X42.here hx rfl (hb hby at_156) rfl rfl k) ?_
      refine own_st (fr' := (mkF m 160 #[.val (.long p0), .second, .val (.long p1), .second, .val (.int p2), .val (.long p3), .second, .val (.long p4), .second, .val (.int p5), .val (.long (p0 &&& (9223372036854775807 : Int64))), .second, .val (.long (p1 &&& (9223372036854775807 : Int64))), .second, .val (.long y28), .second, .val (.long y29), .second, .val (.long z32_0), .second, .val (.long z35_0), .second, .val (.long y36), .second, .val (.long y37), .second, .val (.int z40_0), .val (.int (((p5.toUInt32 >>> ((3 : Int32) &&& 31).toUInt32).toInt32) &&& (3 : Int32))), .val (.ref b41), .unset, .unset] [(.int p2), (.ref b41)])) (fun t k => XS.iload X42.here hx rfl (hb hby at_158) rfl  k) ?_
      refine own_callS X42 hx hZ (y := (⟨"java/lang/Integer", "valueOf", "(I)Ljava/lang/Integer;"⟩ : MethodName)) hown (hw _ (List.mem_of_getElem? (i := 30) rfl)) (hw _ (List.mem_of_getElem? (i := 31) rfl)) (hw _ (List.mem_of_getElem? (i := 32) rfl)) (hw _ (List.mem_of_getElem? (i := 33) rfl)) (by decide) (argsL := [(.int p2)]) (rest := [(.ref b41)]) (W := 1) (rm_voInteger l Z a0 hw [] p2 ca fc T42.heap n0 (Nat.le_trans (Nat.le_trans Z0 E41.1) K42.1) (own_sk1 (Sta.ext E41 S_h) K42 A41) (own_sk1 (Sta.ext E41 S_c) K42 A41) ((V_c.ext E41).keep K42 (ninS ne41_ca nin0)) ((IC.ext E41).keep K42)) rfl (by rw [hml]; rfl) (lenOf pd_5 rfl) rfl (Nat.le_of_eq rfl) (hb hby at_160) (by decide) (by decide) (by decide) (by decide) ?_
      intro v44 T44 L44 X44 hQ44
      obtain ⟨⟨bx, rfl, Ebx⟩, Nq44, K44⟩ := hQ44
      have N44 := Fr.app N42 Nq44
      refine own_callV X44 hx hZ (y := (⟨"com/example/timed_net_processes/timednetprocesses/StepRange", "equals", "(Ljava/lang/Object;)Z"⟩ : MethodName)) (z := (⟨"com/example/timed_net_processes/timednetprocesses/StepRange", "equals", "(Ljava/lang/Object;)Z"⟩ : MethodName)) hown (hw _ (List.mem_of_getElem? (i := 23) rfl)) (hw _ (List.mem_of_getElem? (i := 24) rfl)) (notFace_of_selects (args := #[]) (mvT hZ (hw _ (List.mem_of_getElem? (i := 26) rfl)))) (hw _ (List.mem_of_getElem? (i := 26) rfl)) (hw _ (List.mem_of_getElem? (i := 25) rfl)) (hw _ (List.mem_of_getElem? (i := 10) rfl)) (hw _ (List.mem_of_getElem? (i := 27) rfl)) (by decide) (a := b41) (argsL := [(.ref bx)]) (rest := []) (W := 0) (rm_eqint l Z a0 hw [] b41 bx T44.heap n0 (Nat.le_trans (Nat.le_trans (Nat.le_trans Z0 E41.1) K42.1) K44.1) Ebx) rfl ((A41.keep K42).keep K44) (by rw [hml]; rfl) (lenOf pd_4 rfl) rfl (Nat.le_of_eq rfl) (hb hby at_163) (by decide) (by decide) (by decide) (by decide) ?_
      intro v45 T45 L45 X45 hQ45
      obtain ⟨rfl, Nq45, eq45⟩ := hQ45
      have N45 := Fr.app N44 Nq45
      refine own_st (fr' := (mkF m 169 #[.val (.long p0), .second, .val (.long p1), .second, .val (.int p2), .val (.long p3), .second, .val (.long p4), .second, .val (.int p5), .val (.long (p0 &&& (9223372036854775807 : Int64))), .second, .val (.long (p1 &&& (9223372036854775807 : Int64))), .second, .val (.long y28), .second, .val (.long y29), .second, .val (.long z32_0), .second, .val (.long z35_0), .second, .val (.long y36), .second, .val (.long y37), .second, .val (.int z40_0), .val (.int (((p5.toUInt32 >>> ((3 : Int32) &&& 31).toUInt32).toInt32) &&& (3 : Int32))), .val (.ref b41), .unset, .unset] [])) (fun t k => XS.ifNo X45.here hx rfl (hb hby at_166) rfl ((if0 _ _).trans (own_teq (x := (0 : Int32)) (y := (0 : Int32)) (show 0 = 0 from rfl)).2) k) ?_
      refine own_st (fr' := (mkF m 170 #[.val (.long p0), .second, .val (.long p1), .second, .val (.int p2), .val (.long p3), .second, .val (.long p4), .second, .val (.int p5), .val (.long (p0 &&& (9223372036854775807 : Int64))), .second, .val (.long (p1 &&& (9223372036854775807 : Int64))), .second, .val (.long y28), .second, .val (.long y29), .second, .val (.long z32_0), .second, .val (.long z35_0), .second, .val (.long y36), .second, .val (.long y37), .second, .val (.int z40_0), .val (.int (((p5.toUInt32 >>> ((3 : Int32) &&& 31).toUInt32).toInt32) &&& (3 : Int32))), .val (.ref b41), .unset, .unset] [(.int (1 : Int32))])) (fun t k => XS.iconst X45.here hx rfl (hb hby at_169) k) ?_
      refine own_st (fr' := (mkF m 174 #[.val (.long p0), .second, .val (.long p1), .second, .val (.int p2), .val (.long p3), .second, .val (.long p4), .second, .val (.int p5), .val (.long (p0 &&& (9223372036854775807 : Int64))), .second, .val (.long (p1 &&& (9223372036854775807 : Int64))), .second, .val (.long y28), .second, .val (.long y29), .second, .val (.long z32_0), .second, .val (.long z35_0), .second, .val (.long y36), .second, .val (.long y37), .second, .val (.int z40_0), .val (.int (((p5.toUInt32 >>> ((3 : Int32) &&& 31).toUInt32).toInt32) &&& (3 : Int32))), .val (.ref b41), .unset, .unset] [(.int (1 : Int32))])) (fun t k => XS.goto X45.here hx rfl (pc0 := 170) (pc' := 174) rfl (hb hby at_170) (by decide) (by decide) k) ?_
      exact own_retZ X45 hx hlk hret (Or.inr rfl) (hb hby at_174) (by decide) (by decide) (⟨rfl, N45⟩)
    · refine own_st (fr' := (mkF m 175 #[.val (.long p0), .second, .val (.long p1), .second, .val (.int p2), .val (.long p3), .second, .val (.long p4), .second, .val (.int p5), .val (.long (p0 &&& (9223372036854775807 : Int64))), .second, .val (.long (p1 &&& (9223372036854775807 : Int64))), .second, .val (.long y28), .second, .val (.long y29), .second, .val (.long z32_0), .second, .val (.long z35_0), .second, .val (.long y36), .second, .val (.long y37), .second, .val (.int z40_0), .val (.int (((p5.toUInt32 >>> ((3 : Int32) &&& 31).toUInt32).toInt32) &&& (3 : Int32))), .val (.ref b41), .unset, .unset] [])) (fun t k => XS.icmpYes X42.here hx rfl (pc0 := 153) (pc' := 175) rfl (hb hby at_153) rfl (own_feq (x := (((p5.toUInt32 >>> ((3 : Int32) &&& 31).toUInt32).toInt32) &&& (3 : Int32))) (y := (3 : Int32)) hk3).2 (by decide) (by decide) k) ?_
      obtain ⟨T46, h46, X46, e46, E46, A46, D46, -, st46⟩ := newO X42 hx hZ hown (hw _ (List.mem_of_getElem? (i := 8) rfl)) (hw _ (List.mem_of_getElem? (i := 9) rfl)) (hw _ (List.mem_of_getElem? (i := 10) rfl)) rfl (g := (mkF m 175 #[.val (.long p0), .second, .val (.long p1), .second, .val (.int p2), .val (.long p3), .second, .val (.long p4), .second, .val (.int p5), .val (.long (p0 &&& (9223372036854775807 : Int64))), .second, .val (.long (p1 &&& (9223372036854775807 : Int64))), .second, .val (.long y28), .second, .val (.long y29), .second, .val (.long z32_0), .second, .val (.long z35_0), .second, .val (.long y36), .second, .val (.long y37), .second, .val (.int z40_0), .val (.int (((p5.toUInt32 >>> ((3 : Int32) &&& 31).toUInt32).toInt32) &&& (3 : Int32))), .val (.ref b41), .unset, .unset] [])) rfl (hb hby at_175) (by decide) (by decide)
      obtain ⟨b46, g46⟩ : ∃ z, z = T42.heap.size := ⟨_, rfl⟩
      rw [← g46] at A46 D46 st46
      have ne46_ca : ca ≠ b46 := Nat.ne_of_lt (Nat.lt_of_lt_of_eq ((V_c.ext E41).keep K42 (ninS ne41_ca nin0)).lt g46.symm)
      have ne46_b41 : b41 ≠ b46 := Nat.ne_of_lt (Nat.lt_of_lt_of_eq (A41.keep K42).lt g46.symm)
      have ge_b46 : n0 ≤ b46 := Nat.le_trans (Nat.le_trans (Nat.le_trans Z0 E41.1) K42.1) (Nat.le_of_eq g46.symm)
      have sz_b46 : h0.size ≤ b46 := Nat.le_trans (Keep.trans (Keep.ext (Keep.refl h0 []) E41) K42 (allS (Or.inr sz_b41) all0)).1 (Nat.le_of_eq g46.symm)
      have F46_first : Fld Z h46 b46 "com/example/timed_net_processes/timednetprocesses/StepRange" "first" "J" (.long (0 : Int64)) := D46 (Or.inr (hw _ (List.mem_of_getElem? (i := 18) rfl))) (ty := .long) (by decide)
      have F46_last : Fld Z h46 b46 "com/example/timed_net_processes/timednetprocesses/StepRange" "last" "J" (.long (0 : Int64)) := D46 (Or.inr (hw _ (List.mem_of_getElem? (i := 20) rfl))) (ty := .long) (by decide)
      have F46_transition : Fld Z h46 b46 "com/example/timed_net_processes/timednetprocesses/StepRange" "transition" "I" (.int (0 : Int32)) := D46 (Or.inr (hw _ (List.mem_of_getElem? (i := 22) rfl))) (ty := .int) (by decide)
      refine own_st (fr' := (mkF m 178 #[.val (.long p0), .second, .val (.long p1), .second, .val (.int p2), .val (.long p3), .second, .val (.long p4), .second, .val (.int p5), .val (.long (p0 &&& (9223372036854775807 : Int64))), .second, .val (.long (p1 &&& (9223372036854775807 : Int64))), .second, .val (.long y28), .second, .val (.long y29), .second, .val (.long z32_0), .second, .val (.long z35_0), .second, .val (.long y36), .second, .val (.long y37), .second, .val (.int z40_0), .val (.int (((p5.toUInt32 >>> ((3 : Int32) &&& 31).toUInt32).toInt32) &&& (3 : Int32))), .val (.ref b41), .unset, .unset] [(.ref b46)])) st46 ?_
      refine own_st (fr' := (mkF m 179 #[.val (.long p0), .second, .val (.long p1), .second, .val (.int p2), .val (.long p3), .second, .val (.long p4), .second, .val (.int p5), .val (.long (p0 &&& (9223372036854775807 : Int64))), .second, .val (.long (p1 &&& (9223372036854775807 : Int64))), .second, .val (.long y28), .second, .val (.long y29), .second, .val (.long z32_0), .second, .val (.long z35_0), .second, .val (.long y36), .second, .val (.long y37), .second, .val (.int z40_0), .val (.int (((p5.toUInt32 >>> ((3 : Int32) &&& 31).toUInt32).toInt32) &&& (3 : Int32))), .val (.ref b41), .unset, .unset] [(.ref b46), (.ref b46)])) (fun t k => XS.dup X46.here hx rfl (hb hby at_178) rfl rfl k) ?_
      refine own_st (fr' := (mkF m 181 #[.val (.long p0), .second, .val (.long p1), .second, .val (.int p2), .val (.long p3), .second, .val (.long p4), .second, .val (.int p5), .val (.long (p0 &&& (9223372036854775807 : Int64))), .second, .val (.long (p1 &&& (9223372036854775807 : Int64))), .second, .val (.long y28), .second, .val (.long y29), .second, .val (.long z32_0), .second, .val (.long z35_0), .second, .val (.long y36), .second, .val (.long y37), .second, .val (.int z40_0), .val (.int (((p5.toUInt32 >>> ((3 : Int32) &&& 31).toUInt32).toInt32) &&& (3 : Int32))), .val (.ref b41), .unset, .unset] [(.long y36), (.ref b46), (.ref b46)])) (fun t k => XS.lload X46.here hx rfl (hb hby at_179) rfl  k) ?_
      refine own_st (fr' := (mkF m 183 #[.val (.long p0), .second, .val (.long p1), .second, .val (.int p2), .val (.long p3), .second, .val (.long p4), .second, .val (.int p5), .val (.long (p0 &&& (9223372036854775807 : Int64))), .second, .val (.long (p1 &&& (9223372036854775807 : Int64))), .second, .val (.long y28), .second, .val (.long y29), .second, .val (.long z32_0), .second, .val (.long z35_0), .second, .val (.long y36), .second, .val (.long y37), .second, .val (.int z40_0), .val (.int (((p5.toUInt32 >>> ((3 : Int32) &&& 31).toUInt32).toInt32) &&& (3 : Int32))), .val (.ref b41), .unset, .unset] [(.long y37), (.long y36), (.ref b46), (.ref b46)])) (fun t k => XS.lload X46.here hx rfl (hb hby at_181) rfl  k) ?_
      refine own_st (fr' := (mkF m 185 #[.val (.long p0), .second, .val (.long p1), .second, .val (.int p2), .val (.long p3), .second, .val (.long p4), .second, .val (.int p5), .val (.long (p0 &&& (9223372036854775807 : Int64))), .second, .val (.long (p1 &&& (9223372036854775807 : Int64))), .second, .val (.long y28), .second, .val (.long y29), .second, .val (.long z32_0), .second, .val (.long z35_0), .second, .val (.long y36), .second, .val (.long y37), .second, .val (.int z40_0), .val (.int (((p5.toUInt32 >>> ((3 : Int32) &&& 31).toUInt32).toInt32) &&& (3 : Int32))), .val (.ref b41), .unset, .unset] [(.int z40_0), (.long y37), (.long y36), (.ref b46), (.ref b46)])) (fun t k => XS.iload X46.here hx rfl (hb hby at_183) rfl  k) ?_
      refine own_callN X46 hx hZ (y := (⟨"com/example/timed_net_processes/timednetprocesses/StepRange", "<init>", "(JJI)V"⟩ : MethodName)) hown rfl (hw _ (List.mem_of_getElem? (i := 11) rfl)) (hw _ (List.mem_of_getElem? (i := 12) rfl)) (hw _ (List.mem_of_getElem? (i := 10) rfl)) (hw _ (List.mem_of_getElem? (i := 13) rfl)) (by decide) (a := b46) (argsL := [(.long y36), (.long y37), (.int z40_0)]) (rest := [(.ref b46)]) (W := 1) (rm_init l Z a0 hw [] b46 y36 y37 z40_0 h46 n0 (Nat.le_trans (Nat.le_trans (Nat.le_trans Z0 E41.1) K42.1) E46.1) F46_first F46_last F46_transition A46 ge_b46) e46 (by rw [hml]; rfl) (lenOf pd_3 rfl) rfl (Nat.le_of_eq rfl) (hb hby at_185) (by decide) (by decide) (by decide) (by decide) ?_
      intro v47 T47 L47 X47 hQ47
      obtain ⟨rfl, Nq47, K47, Fc47_0, Fc47_1, Fc47_2⟩ := hQ47
      have N47 := Fr.app N42 Nq47
      refine own_st (fr' := (mkF m 190 #[.val (.long p0), .second, .val (.long p1), .second, .val (.int p2), .val (.long p3), .second, .val (.long p4), .second, .val (.int p5), .val (.long (p0 &&& (9223372036854775807 : Int64))), .second, .val (.long (p1 &&& (9223372036854775807 : Int64))), .second, .val (.long y28), .second, .val (.long y29), .second, .val (.long z32_0), .second, .val (.long z35_0), .second, .val (.long y36), .second, .val (.long y37), .second, .val (.int z40_0), .val (.int (((p5.toUInt32 >>> ((3 : Int32) &&& 31).toUInt32).toInt32) &&& (3 : Int32))), .val (.ref b41), .val (.ref b46), .unset] [])) (fun t k => XS.astore X47.here hx rfl (hb hby at_188) rfl rfl (l' := #[.val (.long p0), .second, .val (.long p1), .second, .val (.int p2), .val (.long p3), .second, .val (.long p4), .second, .val (.int p5), .val (.long (p0 &&& (9223372036854775807 : Int64))), .second, .val (.long (p1 &&& (9223372036854775807 : Int64))), .second, .val (.long y28), .second, .val (.long y29), .second, .val (.long z32_0), .second, .val (.long z35_0), .second, .val (.long y36), .second, .val (.long y37), .second, .val (.int z40_0), .val (.int (((p5.toUInt32 >>> ((3 : Int32) &&& 31).toUInt32).toInt32) &&& (3 : Int32))), .val (.ref b41), .val (.ref b46), .unset]) rfl k) ?_
      refine own_st (fr' := (mkF m 192 #[.val (.long p0), .second, .val (.long p1), .second, .val (.int p2), .val (.long p3), .second, .val (.long p4), .second, .val (.int p5), .val (.long (p0 &&& (9223372036854775807 : Int64))), .second, .val (.long (p1 &&& (9223372036854775807 : Int64))), .second, .val (.long y28), .second, .val (.long y29), .second, .val (.long z32_0), .second, .val (.long z35_0), .second, .val (.long y36), .second, .val (.long y37), .second, .val (.int z40_0), .val (.int (((p5.toUInt32 >>> ((3 : Int32) &&& 31).toUInt32).toInt32) &&& (3 : Int32))), .val (.ref b41), .val (.ref b46), .unset] [(.long y28)])) (fun t k => XS.lload X47.here hx rfl (hb hby at_190) rfl  k) ?_
      refine own_st (fr' := (mkF m 194 #[.val (.long p0), .second, .val (.long p1), .second, .val (.int p2), .val (.long p3), .second, .val (.long p4), .second, .val (.int p5), .val (.long (p0 &&& (9223372036854775807 : Int64))), .second, .val (.long (p1 &&& (9223372036854775807 : Int64))), .second, .val (.long y28), .second, .val (.long y29), .second, .val (.long z32_0), .second, .val (.long z35_0), .second, .val (.long y36), .second, .val (.long y37), .second, .val (.int z40_0), .val (.int (((p5.toUInt32 >>> ((3 : Int32) &&& 31).toUInt32).toInt32) &&& (3 : Int32))), .val (.ref b41), .val (.ref b46), .unset] [(.long y36), (.long y28)])) (fun t k => XS.lload X47.here hx rfl (hb hby at_192) rfl  k) ?_
      refine own_st (fr' := (mkF m 195 #[.val (.long p0), .second, .val (.long p1), .second, .val (.int p2), .val (.long p3), .second, .val (.long p4), .second, .val (.int p5), .val (.long (p0 &&& (9223372036854775807 : Int64))), .second, .val (.long (p1 &&& (9223372036854775807 : Int64))), .second, .val (.long y28), .second, .val (.long y29), .second, .val (.long z32_0), .second, .val (.long z35_0), .second, .val (.long y36), .second, .val (.long y37), .second, .val (.int z40_0), .val (.int (((p5.toUInt32 >>> ((3 : Int32) &&& 31).toUInt32).toInt32) &&& (3 : Int32))), .val (.ref b41), .val (.ref b46), .unset] [(.int (lcmpW y28 y36))])) (fun t k => XS.lcmp X47.here hx rfl (hb hby at_194) rfl k) ?_
      suffices J48 : ∀ (z52_0 : Int32), ((y28.toInt = y36.toInt ∧ y29.toInt = y37.toInt ∧ p2.toInt = z40_0.toInt ∧ z52_0.toInt = 1) ∨ (y28.toInt = y36.toInt ∧ y29.toInt = y37.toInt ∧ ¬ p2.toInt = z40_0.toInt ∧ z52_0.toInt = 0) ∨ (y28.toInt = y36.toInt ∧ ¬ y29.toInt = y37.toInt ∧ z52_0.toInt = 0) ∨ (¬ y28.toInt = y36.toInt ∧ z52_0.toInt = 0)) → Go p e below s room_1.cells room_1.slots (Q_law Z p0 p1 p2 p3 p4 p5 ca fc h0 n0) T47 (mkF m 218 #[.val (.long p0), .second, .val (.long p1), .second, .val (.int p2), .val (.long p3), .second, .val (.long p4), .second, .val (.int p5), .val (.long (p0 &&& (9223372036854775807 : Int64))), .second, .val (.long (p1 &&& (9223372036854775807 : Int64))), .second, .val (.long y28), .second, .val (.long y29), .second, .val (.long z32_0), .second, .val (.long z35_0), .second, .val (.long y36), .second, .val (.long y37), .second, .val (.int z40_0), .val (.int (((p5.toUInt32 >>> ((3 : Int32) &&& 31).toUInt32).toInt32) &&& (3 : Int32))), .val (.ref b41), .val (.ref b46), .unset] [(.int z52_0)]) by
        by_cases hc49 : y28.toInt = y36.toInt
        · refine own_st (fr' := (mkF m 198 #[.val (.long p0), .second, .val (.long p1), .second, .val (.int p2), .val (.long p3), .second, .val (.long p4), .second, .val (.int p5), .val (.long (p0 &&& (9223372036854775807 : Int64))), .second, .val (.long (p1 &&& (9223372036854775807 : Int64))), .second, .val (.long y28), .second, .val (.long y29), .second, .val (.long z32_0), .second, .val (.long z35_0), .second, .val (.long y36), .second, .val (.long y37), .second, .val (.int z40_0), .val (.int (((p5.toUInt32 >>> ((3 : Int32) &&& 31).toUInt32).toInt32) &&& (3 : Int32))), .val (.ref b41), .val (.ref b46), .unset] [])) (fun t k => XS.ifNo X47.here hx rfl (hb hby at_195) rfl (own_teqL (x := y28) (y := y36) hc49).2 k) ?_
          refine own_st (fr' := (mkF m 200 #[.val (.long p0), .second, .val (.long p1), .second, .val (.int p2), .val (.long p3), .second, .val (.long p4), .second, .val (.int p5), .val (.long (p0 &&& (9223372036854775807 : Int64))), .second, .val (.long (p1 &&& (9223372036854775807 : Int64))), .second, .val (.long y28), .second, .val (.long y29), .second, .val (.long z32_0), .second, .val (.long z35_0), .second, .val (.long y36), .second, .val (.long y37), .second, .val (.int z40_0), .val (.int (((p5.toUInt32 >>> ((3 : Int32) &&& 31).toUInt32).toInt32) &&& (3 : Int32))), .val (.ref b41), .val (.ref b46), .unset] [(.long y29)])) (fun t k => XS.lload X47.here hx rfl (hb hby at_198) rfl  k) ?_
          refine own_st (fr' := (mkF m 202 #[.val (.long p0), .second, .val (.long p1), .second, .val (.int p2), .val (.long p3), .second, .val (.long p4), .second, .val (.int p5), .val (.long (p0 &&& (9223372036854775807 : Int64))), .second, .val (.long (p1 &&& (9223372036854775807 : Int64))), .second, .val (.long y28), .second, .val (.long y29), .second, .val (.long z32_0), .second, .val (.long z35_0), .second, .val (.long y36), .second, .val (.long y37), .second, .val (.int z40_0), .val (.int (((p5.toUInt32 >>> ((3 : Int32) &&& 31).toUInt32).toInt32) &&& (3 : Int32))), .val (.ref b41), .val (.ref b46), .unset] [(.long y37), (.long y29)])) (fun t k => XS.lload X47.here hx rfl (hb hby at_200) rfl  k) ?_
          refine own_st (fr' := (mkF m 203 #[.val (.long p0), .second, .val (.long p1), .second, .val (.int p2), .val (.long p3), .second, .val (.long p4), .second, .val (.int p5), .val (.long (p0 &&& (9223372036854775807 : Int64))), .second, .val (.long (p1 &&& (9223372036854775807 : Int64))), .second, .val (.long y28), .second, .val (.long y29), .second, .val (.long z32_0), .second, .val (.long z35_0), .second, .val (.long y36), .second, .val (.long y37), .second, .val (.int z40_0), .val (.int (((p5.toUInt32 >>> ((3 : Int32) &&& 31).toUInt32).toInt32) &&& (3 : Int32))), .val (.ref b41), .val (.ref b46), .unset] [(.int (lcmpW y29 y37))])) (fun t k => XS.lcmp X47.here hx rfl (hb hby at_202) rfl k) ?_
          by_cases hc50 : y29.toInt = y37.toInt
          · refine own_st (fr' := (mkF m 206 #[.val (.long p0), .second, .val (.long p1), .second, .val (.int p2), .val (.long p3), .second, .val (.long p4), .second, .val (.int p5), .val (.long (p0 &&& (9223372036854775807 : Int64))), .second, .val (.long (p1 &&& (9223372036854775807 : Int64))), .second, .val (.long y28), .second, .val (.long y29), .second, .val (.long z32_0), .second, .val (.long z35_0), .second, .val (.long y36), .second, .val (.long y37), .second, .val (.int z40_0), .val (.int (((p5.toUInt32 >>> ((3 : Int32) &&& 31).toUInt32).toInt32) &&& (3 : Int32))), .val (.ref b41), .val (.ref b46), .unset] [])) (fun t k => XS.ifNo X47.here hx rfl (hb hby at_203) rfl (own_teqL (x := y29) (y := y37) hc50).2 k) ?_
            refine own_st (fr' := (mkF m 208 #[.val (.long p0), .second, .val (.long p1), .second, .val (.int p2), .val (.long p3), .second, .val (.long p4), .second, .val (.int p5), .val (.long (p0 &&& (9223372036854775807 : Int64))), .second, .val (.long (p1 &&& (9223372036854775807 : Int64))), .second, .val (.long y28), .second, .val (.long y29), .second, .val (.long z32_0), .second, .val (.long z35_0), .second, .val (.long y36), .second, .val (.long y37), .second, .val (.int z40_0), .val (.int (((p5.toUInt32 >>> ((3 : Int32) &&& 31).toUInt32).toInt32) &&& (3 : Int32))), .val (.ref b41), .val (.ref b46), .unset] [(.int p2)])) (fun t k => XS.iload X47.here hx rfl (hb hby at_206) rfl  k) ?_
            refine own_st (fr' := (mkF m 210 #[.val (.long p0), .second, .val (.long p1), .second, .val (.int p2), .val (.long p3), .second, .val (.long p4), .second, .val (.int p5), .val (.long (p0 &&& (9223372036854775807 : Int64))), .second, .val (.long (p1 &&& (9223372036854775807 : Int64))), .second, .val (.long y28), .second, .val (.long y29), .second, .val (.long z32_0), .second, .val (.long z35_0), .second, .val (.long y36), .second, .val (.long y37), .second, .val (.int z40_0), .val (.int (((p5.toUInt32 >>> ((3 : Int32) &&& 31).toUInt32).toInt32) &&& (3 : Int32))), .val (.ref b41), .val (.ref b46), .unset] [(.int z40_0), (.int p2)])) (fun t k => XS.iload X47.here hx rfl (hb hby at_208) rfl  k) ?_
            by_cases hc51 : p2.toInt = z40_0.toInt
            · refine own_st (fr' := (mkF m 213 #[.val (.long p0), .second, .val (.long p1), .second, .val (.int p2), .val (.long p3), .second, .val (.long p4), .second, .val (.int p5), .val (.long (p0 &&& (9223372036854775807 : Int64))), .second, .val (.long (p1 &&& (9223372036854775807 : Int64))), .second, .val (.long y28), .second, .val (.long y29), .second, .val (.long z32_0), .second, .val (.long z35_0), .second, .val (.long y36), .second, .val (.long y37), .second, .val (.int z40_0), .val (.int (((p5.toUInt32 >>> ((3 : Int32) &&& 31).toUInt32).toInt32) &&& (3 : Int32))), .val (.ref b41), .val (.ref b46), .unset] [])) (fun t k => XS.icmpNo X47.here hx rfl (hb hby at_210) rfl (own_teq (x := p2) (y := z40_0) hc51).2 k) ?_
              refine own_st (fr' := (mkF m 214 #[.val (.long p0), .second, .val (.long p1), .second, .val (.int p2), .val (.long p3), .second, .val (.long p4), .second, .val (.int p5), .val (.long (p0 &&& (9223372036854775807 : Int64))), .second, .val (.long (p1 &&& (9223372036854775807 : Int64))), .second, .val (.long y28), .second, .val (.long y29), .second, .val (.long z32_0), .second, .val (.long z35_0), .second, .val (.long y36), .second, .val (.long y37), .second, .val (.int z40_0), .val (.int (((p5.toUInt32 >>> ((3 : Int32) &&& 31).toUInt32).toInt32) &&& (3 : Int32))), .val (.ref b41), .val (.ref b46), .unset] [(.int (1 : Int32))])) (fun t k => XS.iconst X47.here hx rfl (hb hby at_213) k) ?_
              refine own_st (fr' := (mkF m 218 #[.val (.long p0), .second, .val (.long p1), .second, .val (.int p2), .val (.long p3), .second, .val (.long p4), .second, .val (.int p5), .val (.long (p0 &&& (9223372036854775807 : Int64))), .second, .val (.long (p1 &&& (9223372036854775807 : Int64))), .second, .val (.long y28), .second, .val (.long y29), .second, .val (.long z32_0), .second, .val (.long z35_0), .second, .val (.long y36), .second, .val (.long y37), .second, .val (.int z40_0), .val (.int (((p5.toUInt32 >>> ((3 : Int32) &&& 31).toUInt32).toInt32) &&& (3 : Int32))), .val (.ref b41), .val (.ref b46), .unset] [(.int (1 : Int32))])) (fun t k => XS.goto X47.here hx rfl (pc0 := 214) (pc' := 218) rfl (hb hby at_214) (by decide) (by decide) k) ?_
              exact J48  (1 : Int32) (Or.inl ⟨hc49, hc50, hc51, rfl⟩)
            · refine own_st (fr' := (mkF m 217 #[.val (.long p0), .second, .val (.long p1), .second, .val (.int p2), .val (.long p3), .second, .val (.long p4), .second, .val (.int p5), .val (.long (p0 &&& (9223372036854775807 : Int64))), .second, .val (.long (p1 &&& (9223372036854775807 : Int64))), .second, .val (.long y28), .second, .val (.long y29), .second, .val (.long z32_0), .second, .val (.long z35_0), .second, .val (.long y36), .second, .val (.long y37), .second, .val (.int z40_0), .val (.int (((p5.toUInt32 >>> ((3 : Int32) &&& 31).toUInt32).toInt32) &&& (3 : Int32))), .val (.ref b41), .val (.ref b46), .unset] [])) (fun t k => XS.icmpYes X47.here hx rfl (pc0 := 210) (pc' := 217) rfl (hb hby at_210) rfl (own_feq (x := p2) (y := z40_0) hc51).2 (by decide) (by decide) k) ?_
              refine own_st (fr' := (mkF m 218 #[.val (.long p0), .second, .val (.long p1), .second, .val (.int p2), .val (.long p3), .second, .val (.long p4), .second, .val (.int p5), .val (.long (p0 &&& (9223372036854775807 : Int64))), .second, .val (.long (p1 &&& (9223372036854775807 : Int64))), .second, .val (.long y28), .second, .val (.long y29), .second, .val (.long z32_0), .second, .val (.long z35_0), .second, .val (.long y36), .second, .val (.long y37), .second, .val (.int z40_0), .val (.int (((p5.toUInt32 >>> ((3 : Int32) &&& 31).toUInt32).toInt32) &&& (3 : Int32))), .val (.ref b41), .val (.ref b46), .unset] [(.int (0 : Int32))])) (fun t k => XS.iconst X47.here hx rfl (hb hby at_217) k) ?_
              exact J48  (0 : Int32) (Or.inr (Or.inl ⟨hc49, hc50, hc51, rfl⟩))
          · refine own_st (fr' := (mkF m 217 #[.val (.long p0), .second, .val (.long p1), .second, .val (.int p2), .val (.long p3), .second, .val (.long p4), .second, .val (.int p5), .val (.long (p0 &&& (9223372036854775807 : Int64))), .second, .val (.long (p1 &&& (9223372036854775807 : Int64))), .second, .val (.long y28), .second, .val (.long y29), .second, .val (.long z32_0), .second, .val (.long z35_0), .second, .val (.long y36), .second, .val (.long y37), .second, .val (.int z40_0), .val (.int (((p5.toUInt32 >>> ((3 : Int32) &&& 31).toUInt32).toInt32) &&& (3 : Int32))), .val (.ref b41), .val (.ref b46), .unset] [])) (fun t k => XS.ifYes X47.here hx rfl (pc0 := 203) (pc' := 217) rfl (hb hby at_203) rfl (own_feqL (x := y29) (y := y37) hc50).2 (by decide) (by decide) k) ?_
            refine own_st (fr' := (mkF m 218 #[.val (.long p0), .second, .val (.long p1), .second, .val (.int p2), .val (.long p3), .second, .val (.long p4), .second, .val (.int p5), .val (.long (p0 &&& (9223372036854775807 : Int64))), .second, .val (.long (p1 &&& (9223372036854775807 : Int64))), .second, .val (.long y28), .second, .val (.long y29), .second, .val (.long z32_0), .second, .val (.long z35_0), .second, .val (.long y36), .second, .val (.long y37), .second, .val (.int z40_0), .val (.int (((p5.toUInt32 >>> ((3 : Int32) &&& 31).toUInt32).toInt32) &&& (3 : Int32))), .val (.ref b41), .val (.ref b46), .unset] [(.int (0 : Int32))])) (fun t k => XS.iconst X47.here hx rfl (hb hby at_217) k) ?_
            exact J48  (0 : Int32) (Or.inr (Or.inr (Or.inl ⟨hc49, hc50, rfl⟩)))
        · refine own_st (fr' := (mkF m 217 #[.val (.long p0), .second, .val (.long p1), .second, .val (.int p2), .val (.long p3), .second, .val (.long p4), .second, .val (.int p5), .val (.long (p0 &&& (9223372036854775807 : Int64))), .second, .val (.long (p1 &&& (9223372036854775807 : Int64))), .second, .val (.long y28), .second, .val (.long y29), .second, .val (.long z32_0), .second, .val (.long z35_0), .second, .val (.long y36), .second, .val (.long y37), .second, .val (.int z40_0), .val (.int (((p5.toUInt32 >>> ((3 : Int32) &&& 31).toUInt32).toInt32) &&& (3 : Int32))), .val (.ref b41), .val (.ref b46), .unset] [])) (fun t k => XS.ifYes X47.here hx rfl (pc0 := 195) (pc' := 217) rfl (hb hby at_195) rfl (own_feqL (x := y28) (y := y36) hc49).2 (by decide) (by decide) k) ?_
          refine own_st (fr' := (mkF m 218 #[.val (.long p0), .second, .val (.long p1), .second, .val (.int p2), .val (.long p3), .second, .val (.long p4), .second, .val (.int p5), .val (.long (p0 &&& (9223372036854775807 : Int64))), .second, .val (.long (p1 &&& (9223372036854775807 : Int64))), .second, .val (.long y28), .second, .val (.long y29), .second, .val (.long z32_0), .second, .val (.long z35_0), .second, .val (.long y36), .second, .val (.long y37), .second, .val (.int z40_0), .val (.int (((p5.toUInt32 >>> ((3 : Int32) &&& 31).toUInt32).toInt32) &&& (3 : Int32))), .val (.ref b41), .val (.ref b46), .unset] [(.int (0 : Int32))])) (fun t k => XS.iconst X47.here hx rfl (hb hby at_217) k) ?_
          exact J48  (0 : Int32) (Or.inr (Or.inr (Or.inr ⟨hc49, rfl⟩)))
      intro z52_0 hz52
      refine own_st (fr' := (mkF m 220 #[.val (.long p0), .second, .val (.long p1), .second, .val (.int p2), .val (.long p3), .second, .val (.long p4), .second, .val (.int p5), .val (.long (p0 &&& (9223372036854775807 : Int64))), .second, .val (.long (p1 &&& (9223372036854775807 : Int64))), .second, .val (.long y28), .second, .val (.long y29), .second, .val (.long z32_0), .second, .val (.long z35_0), .second, .val (.long y36), .second, .val (.long y37), .second, .val (.int z40_0), .val (.int (((p5.toUInt32 >>> ((3 : Int32) &&& 31).toUInt32).toInt32) &&& (3 : Int32))), .val (.ref b41), .val (.ref b46), .val (.int z52_0)] [])) (fun t k => XS.istore X47.here hx rfl (hb hby at_218) rfl  (l' := #[.val (.long p0), .second, .val (.long p1), .second, .val (.int p2), .val (.long p3), .second, .val (.long p4), .second, .val (.int p5), .val (.long (p0 &&& (9223372036854775807 : Int64))), .second, .val (.long (p1 &&& (9223372036854775807 : Int64))), .second, .val (.long y28), .second, .val (.long y29), .second, .val (.long z32_0), .second, .val (.long z35_0), .second, .val (.long y36), .second, .val (.long y37), .second, .val (.int z40_0), .val (.int (((p5.toUInt32 >>> ((3 : Int32) &&& 31).toUInt32).toInt32) &&& (3 : Int32))), .val (.ref b41), .val (.ref b46), .val (.int z52_0)]) rfl k) ?_
      refine own_st (fr' := (mkF m 222 #[.val (.long p0), .second, .val (.long p1), .second, .val (.int p2), .val (.long p3), .second, .val (.long p4), .second, .val (.int p5), .val (.long (p0 &&& (9223372036854775807 : Int64))), .second, .val (.long (p1 &&& (9223372036854775807 : Int64))), .second, .val (.long y28), .second, .val (.long y29), .second, .val (.long z32_0), .second, .val (.long z35_0), .second, .val (.long y36), .second, .val (.long y37), .second, .val (.int z40_0), .val (.int (((p5.toUInt32 >>> ((3 : Int32) &&& 31).toUInt32).toInt32) &&& (3 : Int32))), .val (.ref b41), .val (.ref b46), .val (.int z52_0)] [(.ref b41)])) (fun t k => XS.aload X47.here hx rfl (hb hby at_220) rfl rfl k) ?_
      refine own_st (fr' := (mkF m 224 #[.val (.long p0), .second, .val (.long p1), .second, .val (.int p2), .val (.long p3), .second, .val (.long p4), .second, .val (.int p5), .val (.long (p0 &&& (9223372036854775807 : Int64))), .second, .val (.long (p1 &&& (9223372036854775807 : Int64))), .second, .val (.long y28), .second, .val (.long y29), .second, .val (.long z32_0), .second, .val (.long z35_0), .second, .val (.long y36), .second, .val (.long y37), .second, .val (.int z40_0), .val (.int (((p5.toUInt32 >>> ((3 : Int32) &&& 31).toUInt32).toInt32) &&& (3 : Int32))), .val (.ref b41), .val (.ref b46), .val (.int z52_0)] [(.ref b46), (.ref b41)])) (fun t k => XS.aload X47.here hx rfl (hb hby at_222) rfl rfl k) ?_
      refine own_callV X47 hx hZ (y := (⟨"com/example/timed_net_processes/timednetprocesses/StepRange", "equals", "(Ljava/lang/Object;)Z"⟩ : MethodName)) (z := (⟨"com/example/timed_net_processes/timednetprocesses/StepRange", "equals", "(Ljava/lang/Object;)Z"⟩ : MethodName)) hown (hw _ (List.mem_of_getElem? (i := 23) rfl)) (hw _ (List.mem_of_getElem? (i := 24) rfl)) (notFace_of_selects (args := #[]) (mvT hZ (hw _ (List.mem_of_getElem? (i := 26) rfl)))) (hw _ (List.mem_of_getElem? (i := 26) rfl)) (hw _ (List.mem_of_getElem? (i := 25) rfl)) (hw _ (List.mem_of_getElem? (i := 10) rfl)) (hw _ (List.mem_of_getElem? (i := 27) rfl)) (by decide) (a := b41) (argsL := [(.ref b46)]) (rest := []) (W := 0) (rm_eqs l Z a0 hw [] b41 b46 y28 y29 p2 y36 y37 z40_0 T47.heap n0 (Nat.le_trans (Nat.le_trans (Nat.le_trans (Nat.le_trans Z0 E41.1) K42.1) E46.1) K47.1) (A46.keep K47) ((Fc42_0.ext E46).keep K47 (ninS ne46_b41 nin0)) ((Fc42_1.ext E46).keep K47 (ninS ne46_b41 nin0)) ((Fc42_2.ext E46).keep K47 (ninS ne46_b41 nin0)) Fc47_0 Fc47_1 Fc47_2) rfl (((A41.keep K42).ext E46).keep K47) (by rw [hml]; rfl) (lenOf pd_4 rfl) rfl (Nat.le_of_eq rfl) (hb hby at_224) (by decide) (by decide) (by decide) (by decide) ?_
      intro v53 T53 L53 X53 hQ53
      obtain ⟨⟨y53, rfl, hy53⟩, Nq53, eq53⟩ := hQ53
      have N53 := Fr.app N47 Nq53
      refine own_st (fr' := (mkF m 229 #[.val (.long p0), .second, .val (.long p1), .second, .val (.int p2), .val (.long p3), .second, .val (.long p4), .second, .val (.int p5), .val (.long (p0 &&& (9223372036854775807 : Int64))), .second, .val (.long (p1 &&& (9223372036854775807 : Int64))), .second, .val (.long y28), .second, .val (.long y29), .second, .val (.long z32_0), .second, .val (.long z35_0), .second, .val (.long y36), .second, .val (.long y37), .second, .val (.int z40_0), .val (.int (((p5.toUInt32 >>> ((3 : Int32) &&& 31).toUInt32).toInt32) &&& (3 : Int32))), .val (.ref b41), .val (.ref b46), .val (.int z52_0)] [(.int z52_0), (.int y53)])) (fun t k => XS.iload X53.here hx rfl (hb hby at_227) rfl  k) ?_
      refine own_st (fr' := (mkF m 232 #[.val (.long p0), .second, .val (.long p1), .second, .val (.int p2), .val (.long p3), .second, .val (.long p4), .second, .val (.int p5), .val (.long (p0 &&& (9223372036854775807 : Int64))), .second, .val (.long (p1 &&& (9223372036854775807 : Int64))), .second, .val (.long y28), .second, .val (.long y29), .second, .val (.long z32_0), .second, .val (.long z35_0), .second, .val (.long y36), .second, .val (.long y37), .second, .val (.int z40_0), .val (.int (((p5.toUInt32 >>> ((3 : Int32) &&& 31).toUInt32).toInt32) &&& (3 : Int32))), .val (.ref b41), .val (.ref b46), .val (.int z52_0)] [])) (fun t k => XS.icmpNo X53.here hx rfl (hb hby at_229) rfl (own_teq (x := y53) (y := z52_0) (show y53.toInt = z52_0.toInt from by omega)).2 k) ?_
      refine own_st (fr' := (mkF m 234 #[.val (.long p0), .second, .val (.long p1), .second, .val (.int p2), .val (.long p3), .second, .val (.long p4), .second, .val (.int p5), .val (.long (p0 &&& (9223372036854775807 : Int64))), .second, .val (.long (p1 &&& (9223372036854775807 : Int64))), .second, .val (.long y28), .second, .val (.long y29), .second, .val (.long z32_0), .second, .val (.long z35_0), .second, .val (.long y36), .second, .val (.long y37), .second, .val (.int z40_0), .val (.int (((p5.toUInt32 >>> ((3 : Int32) &&& 31).toUInt32).toInt32) &&& (3 : Int32))), .val (.ref b41), .val (.ref b46), .val (.int z52_0)] [(.ref b46)])) (fun t k => XS.aload X53.here hx rfl (hb hby at_232) rfl rfl k) ?_
      refine own_st (fr' := (mkF m 236 #[.val (.long p0), .second, .val (.long p1), .second, .val (.int p2), .val (.long p3), .second, .val (.long p4), .second, .val (.int p5), .val (.long (p0 &&& (9223372036854775807 : Int64))), .second, .val (.long (p1 &&& (9223372036854775807 : Int64))), .second, .val (.long y28), .second, .val (.long y29), .second, .val (.long z32_0), .second, .val (.long z35_0), .second, .val (.long y36), .second, .val (.long y37), .second, .val (.int z40_0), .val (.int (((p5.toUInt32 >>> ((3 : Int32) &&& 31).toUInt32).toInt32) &&& (3 : Int32))), .val (.ref b41), .val (.ref b46), .val (.int z52_0)] [(.ref b41), (.ref b46)])) (fun t k => XS.aload X53.here hx rfl (hb hby at_234) rfl rfl k) ?_
      refine own_callV X53 hx hZ (y := (⟨"com/example/timed_net_processes/timednetprocesses/StepRange", "equals", "(Ljava/lang/Object;)Z"⟩ : MethodName)) (z := (⟨"com/example/timed_net_processes/timednetprocesses/StepRange", "equals", "(Ljava/lang/Object;)Z"⟩ : MethodName)) hown (hw _ (List.mem_of_getElem? (i := 23) rfl)) (hw _ (List.mem_of_getElem? (i := 24) rfl)) (notFace_of_selects (args := #[]) (mvT hZ (hw _ (List.mem_of_getElem? (i := 26) rfl)))) (hw _ (List.mem_of_getElem? (i := 26) rfl)) (hw _ (List.mem_of_getElem? (i := 25) rfl)) (hw _ (List.mem_of_getElem? (i := 10) rfl)) (hw _ (List.mem_of_getElem? (i := 27) rfl)) (by decide) (a := b46) (argsL := [(.ref b41)]) (rest := []) (W := 0) (rm_eqs l Z a0 hw [] b46 b41 y36 y37 z40_0 y28 y29 p2 T47.heap n0 (Nat.le_trans (Nat.le_trans (Nat.le_trans (Nat.le_trans Z0 E41.1) K42.1) E46.1) K47.1) (((A41.keep K42).ext E46).keep K47) Fc47_0 Fc47_1 Fc47_2 ((Fc42_0.ext E46).keep K47 (ninS ne46_b41 nin0)) ((Fc42_1.ext E46).keep K47 (ninS ne46_b41 nin0)) ((Fc42_2.ext E46).keep K47 (ninS ne46_b41 nin0))) eq53 (A46.keep K47) (by rw [hml]; rfl) (lenOf pd_4 rfl) rfl (Nat.le_of_eq rfl) (hb hby at_236) (by decide) (by decide) (by decide) (by decide) ?_
      intro v54 T54 L54 X54 hQ54
      obtain ⟨⟨y54, rfl, hy54⟩, Nq54, eq54⟩ := hQ54
      have N54 := Fr.app N53 Nq54
      refine own_st (fr' := (mkF m 241 #[.val (.long p0), .second, .val (.long p1), .second, .val (.int p2), .val (.long p3), .second, .val (.long p4), .second, .val (.int p5), .val (.long (p0 &&& (9223372036854775807 : Int64))), .second, .val (.long (p1 &&& (9223372036854775807 : Int64))), .second, .val (.long y28), .second, .val (.long y29), .second, .val (.long z32_0), .second, .val (.long z35_0), .second, .val (.long y36), .second, .val (.long y37), .second, .val (.int z40_0), .val (.int (((p5.toUInt32 >>> ((3 : Int32) &&& 31).toUInt32).toInt32) &&& (3 : Int32))), .val (.ref b41), .val (.ref b46), .val (.int z52_0)] [(.int z52_0), (.int y54)])) (fun t k => XS.iload X54.here hx rfl (hb hby at_239) rfl  k) ?_
      refine own_st (fr' := (mkF m 244 #[.val (.long p0), .second, .val (.long p1), .second, .val (.int p2), .val (.long p3), .second, .val (.long p4), .second, .val (.int p5), .val (.long (p0 &&& (9223372036854775807 : Int64))), .second, .val (.long (p1 &&& (9223372036854775807 : Int64))), .second, .val (.long y28), .second, .val (.long y29), .second, .val (.long z32_0), .second, .val (.long z35_0), .second, .val (.long y36), .second, .val (.long y37), .second, .val (.int z40_0), .val (.int (((p5.toUInt32 >>> ((3 : Int32) &&& 31).toUInt32).toInt32) &&& (3 : Int32))), .val (.ref b41), .val (.ref b46), .val (.int z52_0)] [])) (fun t k => XS.icmpNo X54.here hx rfl (hb hby at_241) rfl (own_teq (x := y54) (y := z52_0) (show y54.toInt = z52_0.toInt from by omega)).2 k) ?_
      refine own_st (fr' := (mkF m 246 #[.val (.long p0), .second, .val (.long p1), .second, .val (.int p2), .val (.long p3), .second, .val (.long p4), .second, .val (.int p5), .val (.long (p0 &&& (9223372036854775807 : Int64))), .second, .val (.long (p1 &&& (9223372036854775807 : Int64))), .second, .val (.long y28), .second, .val (.long y29), .second, .val (.long z32_0), .second, .val (.long z35_0), .second, .val (.long y36), .second, .val (.long y37), .second, .val (.int z40_0), .val (.int (((p5.toUInt32 >>> ((3 : Int32) &&& 31).toUInt32).toInt32) &&& (3 : Int32))), .val (.ref b41), .val (.ref b46), .val (.int z52_0)] [(.ref b41)])) (fun t k => XS.aload X54.here hx rfl (hb hby at_244) rfl rfl k) ?_
      refine own_st (fr' := (mkF m 248 #[.val (.long p0), .second, .val (.long p1), .second, .val (.int p2), .val (.long p3), .second, .val (.long p4), .second, .val (.int p5), .val (.long (p0 &&& (9223372036854775807 : Int64))), .second, .val (.long (p1 &&& (9223372036854775807 : Int64))), .second, .val (.long y28), .second, .val (.long y29), .second, .val (.long z32_0), .second, .val (.long z35_0), .second, .val (.long y36), .second, .val (.long y37), .second, .val (.int z40_0), .val (.int (((p5.toUInt32 >>> ((3 : Int32) &&& 31).toUInt32).toInt32) &&& (3 : Int32))), .val (.ref b41), .val (.ref b46), .val (.int z52_0)] [(.ref b41), (.ref b41)])) (fun t k => XS.aload X54.here hx rfl (hb hby at_246) rfl rfl k) ?_
      refine own_callV X54 hx hZ (y := (⟨"com/example/timed_net_processes/timednetprocesses/StepRange", "equals", "(Ljava/lang/Object;)Z"⟩ : MethodName)) (z := (⟨"com/example/timed_net_processes/timednetprocesses/StepRange", "equals", "(Ljava/lang/Object;)Z"⟩ : MethodName)) hown (hw _ (List.mem_of_getElem? (i := 23) rfl)) (hw _ (List.mem_of_getElem? (i := 24) rfl)) (notFace_of_selects (args := #[]) (mvT hZ (hw _ (List.mem_of_getElem? (i := 26) rfl)))) (hw _ (List.mem_of_getElem? (i := 26) rfl)) (hw _ (List.mem_of_getElem? (i := 25) rfl)) (hw _ (List.mem_of_getElem? (i := 10) rfl)) (hw _ (List.mem_of_getElem? (i := 27) rfl)) (by decide) (a := b41) (argsL := [(.ref b41)]) (rest := []) (W := 0) (rm_eqs l Z a0 hw [] b41 b41 y28 y29 p2 y28 y29 p2 T47.heap n0 (Nat.le_trans (Nat.le_trans (Nat.le_trans (Nat.le_trans Z0 E41.1) K42.1) E46.1) K47.1) (((A41.keep K42).ext E46).keep K47) ((Fc42_0.ext E46).keep K47 (ninS ne46_b41 nin0)) ((Fc42_1.ext E46).keep K47 (ninS ne46_b41 nin0)) ((Fc42_2.ext E46).keep K47 (ninS ne46_b41 nin0)) ((Fc42_0.ext E46).keep K47 (ninS ne46_b41 nin0)) ((Fc42_1.ext E46).keep K47 (ninS ne46_b41 nin0)) ((Fc42_2.ext E46).keep K47 (ninS ne46_b41 nin0))) eq54 (((A41.keep K42).ext E46).keep K47) (by rw [hml]; rfl) (lenOf pd_4 rfl) rfl (Nat.le_of_eq rfl) (hb hby at_248) (by decide) (by decide) (by decide) (by decide) ?_
      intro v55 T55 L55 X55 hQ55
      obtain ⟨⟨y55, rfl, hy55⟩, Nq55, eq55⟩ := hQ55
      have N55 := Fr.app N54 Nq55
      refine own_st (fr' := (mkF m 254 #[.val (.long p0), .second, .val (.long p1), .second, .val (.int p2), .val (.long p3), .second, .val (.long p4), .second, .val (.int p5), .val (.long (p0 &&& (9223372036854775807 : Int64))), .second, .val (.long (p1 &&& (9223372036854775807 : Int64))), .second, .val (.long y28), .second, .val (.long y29), .second, .val (.long z32_0), .second, .val (.long z35_0), .second, .val (.long y36), .second, .val (.long y37), .second, .val (.int z40_0), .val (.int (((p5.toUInt32 >>> ((3 : Int32) &&& 31).toUInt32).toInt32) &&& (3 : Int32))), .val (.ref b41), .val (.ref b46), .val (.int z52_0)] [])) (fun t k => XS.ifNo X55.here hx rfl (hb hby at_251) rfl ((if0 _ _).trans (own_feq (x := y55) (y := (0 : Int32)) (show ¬ y55.toInt = 0 from by omega)).1) k) ?_
      refine own_st (fr' := (mkF m 255 #[.val (.long p0), .second, .val (.long p1), .second, .val (.int p2), .val (.long p3), .second, .val (.long p4), .second, .val (.int p5), .val (.long (p0 &&& (9223372036854775807 : Int64))), .second, .val (.long (p1 &&& (9223372036854775807 : Int64))), .second, .val (.long y28), .second, .val (.long y29), .second, .val (.long z32_0), .second, .val (.long z35_0), .second, .val (.long y36), .second, .val (.long y37), .second, .val (.int z40_0), .val (.int (((p5.toUInt32 >>> ((3 : Int32) &&& 31).toUInt32).toInt32) &&& (3 : Int32))), .val (.ref b41), .val (.ref b46), .val (.int z52_0)] [(.int (1 : Int32))])) (fun t k => XS.iconst X55.here hx rfl (hb hby at_254) k) ?_
      refine own_st (fr' := (mkF m 259 #[.val (.long p0), .second, .val (.long p1), .second, .val (.int p2), .val (.long p3), .second, .val (.long p4), .second, .val (.int p5), .val (.long (p0 &&& (9223372036854775807 : Int64))), .second, .val (.long (p1 &&& (9223372036854775807 : Int64))), .second, .val (.long y28), .second, .val (.long y29), .second, .val (.long z32_0), .second, .val (.long z35_0), .second, .val (.long y36), .second, .val (.long y37), .second, .val (.int z40_0), .val (.int (((p5.toUInt32 >>> ((3 : Int32) &&& 31).toUInt32).toInt32) &&& (3 : Int32))), .val (.ref b41), .val (.ref b46), .val (.int z52_0)] [(.int (1 : Int32))])) (fun t k => XS.goto X55.here hx rfl (pc0 := 255) (pc' := 259) rfl (hb hby at_255) (by decide) (by decide) k) ?_
      exact own_retZ X55 hx hlk hret (Or.inr rfl) (hb hby at_259) (by decide) (by decide) (⟨rfl, N55⟩)
set_option maxRecDepth 65536 in
set_option maxHeartbeats 40000000 in
theorem comes_1 {Post : Tables → Env → Array Value → State → Outcome → State → Prop} (hpost : ∀ tb e args s v u, (limb_1_1.after args s (.returned v) u = true ∧ limb_1_2.after args s (.returned v) u = true ∧ True) → FrameEnd s (.returned v) u (Jvm.fieldLocs frame_1_writes args s ++ Jvm.arrayLocs frame_1_arrays args s ++ Jvm.staticLocs frame_1_statics s) 16 128 → Post tb e args s (.returned v) u) :
    ArmFor flags0 classFile x code maxLocals ret World_1 tables_1 room_1 Calls_1 rest_1 Pre_1 Post := by
  intro l hfl _ _ p e ha hc hk s m args below hf hA hF happ hP
  obtain ⟨hcalls, hrest, hpre⟩ := hP
  obtain ⟨-, -, -, hnamed, -, -, -, hat⟩ := (Spec.applies_iff hf).mp happ
  obtain ⟨hg, hn⟩ := and_e (Cond.before_iff.mp (show (Jvm.Cond.and given_1 narrow_1).before args s = true from hpre))
  obtain ⟨hcount, ha0⟩ := and_e hg
  obtain ⟨hi0, ha1⟩ := and_e ha0
  obtain ⟨hi1, ha2⟩ := and_e ha1
  obtain ⟨hi2, ha3⟩ := and_e ha2
  obtain ⟨hi3, ha4⟩ := and_e ha3
  obtain ⟨hi4, ha5⟩ := and_e ha4
  have hi5 := ha5
  obtain ⟨w0, w1, w2, w3, w4, w5, rfl⟩ : ∃ w0 w1 w2 w3 w4 w5 : Value, args = #[w0, w1, w2, w3, w4, w5] := by
    have hs : args.size = 6 := by simpa [Cond.value, given_1] using hcount
    obtain ⟨L⟩ := args
    match L, hs with
    | [w0, w1, w2, w3, w4, w5], _ => exact ⟨w0, w1, w2, w3, w4, w5, rfl⟩
  have hw := fun d (hd : d ∈ tables_1) => atoms_spec (ws := Jvm.Cond.code x code maxLocals ret :: tables_1) hat d (List.mem_cons_of_mem _ hd)
  obtain ⟨hsets, hown0⟩ := atoms_of _ (rest_1_c_eq ▸ (show rest_1_c.before _ s = true from hrest))
  have hfit : Fit s := fun {y c} hc i hi => by
    obtain ⟨ha, rfl⟩ := Array.getElem?_eq_some_iff.mp hc
    have q := List.all_eq_true.mp ((Array.all_eq_true_iff_forall_mem.mp hF) _ (Array.getElem_mem ha)) i (List.mem_range.mpr hi)
    simpa [Array.getElem?_eq_getElem hi] using q
  obtain ⟨i0, ei0⟩ := isL_v hi0
  obtain rfl : w0 = (.long i0) := Option.some.inj ei0
  obtain ⟨i1, ei1⟩ := isL_v hi1
  obtain rfl : w1 = (.long i1) := Option.some.inj ei1
  obtain ⟨i2, ei2⟩ := is_v hi2
  obtain rfl : w2 = (.int i2) := Option.some.inj ei2
  obtain ⟨i3, ei3⟩ := isL_v hi3
  obtain rfl : w3 = (.long i3) := Option.some.inj ei3
  obtain ⟨i4, ei4⟩ := isL_v hi4
  obtain rfl : w4 = (.long i4) := Option.some.inj ei4
  obtain ⟨i5, ei5⟩ := is_v hi5
  obtain rfl : w5 = (.int i5) := Option.some.inj ei5
  have eh := own_eqv (Cond.before_iff.mp (hsets _ (List.mem_of_getElem? (i := 3) rfl)))
  have S_h := Sta.start eh (Or.inl (hsets _ (List.mem_of_getElem? (i := 1) rfl)))
  have hAI := Cond.before_iff.mp (hsets _ (List.mem_of_getElem? (i := 4) rfl))
  obtain ⟨caI, ecI⟩ := arr_v hAI
  have S_cI := Sta.start ecI (Or.inr ⟨(hw _ (List.mem_of_getElem? (i := 35) rfl)), (hsets _ (List.mem_of_getElem? (i := 2) rfl))⟩)
  obtain ⟨fcI, V_cI, ICI⟩ := own_cache (fun _ => ecI) hAI (Cond.before_iff.mp (hsets _ (List.mem_of_getElem? (i := 6) rfl))) (Cond.before_iff.mp (hsets _ (List.mem_of_getElem? (i := 7) rfl)))
  obtain ⟨n, o, h1, h2, h3, _, L, rfl, ⟨rfl, N⟩, hq⟩ := rm_law l s _ hw tables_1 i0 i1 i2 i3 i4 i5 caI fcI s.heap s.heap.size (Nat.le_refl _) S_h S_cI V_cI ICI p e ha hc hk s m _ below hf ((Spec.applies_iff_loose hf).mp happ).1 ⟨rfl, State.Warmed39.refl s, rfl⟩ trivial
  refine ⟨n, _, h1, h2, h3, hpost _ _ _ _ _ _ ⟨Cond.after_iff.mpr rfl, Cond.after_iff.mpr (eq_i res_at (Term.int_eval (1)) rfl), trivial⟩ ⟨hq.1, hq.2.1, (hq.2.2.sift fun y hy => Or.inr (N y hy)).mono (by decide) (by decide)⟩⟩
theorem main_1_1 : Claimed_1_1 := comes_1 fun _ _ _ _ _ _ h hF => ⟨h.1, hF⟩
theorem main_1_2 : Claimed_1_2 := comes_1 fun _ _ _ _ _ _ h hF => ⟨h.2.1, hF⟩
end Jvm.Pilot.@@N@@
namespace Jvm.Pilot.@@N@@
open Jvm Jvm.ClassFile Sem Op Lib Jvm.Free Jvm.Stand Jvm.Pilot.@@N@@.Jvm.D
/-! MADE BY PROGRAM (witnessworld.py) out of the Statement's table words and the real class files: 17 classes; the members and pool entries that the words name. The judged class is class 1, her method 1. -/
namespace start1
open Jvm.ClassFile
def u (s : String) : CpInfo := .utf8 (stringToUtf16 s)
/-- a pool by its gaps: so many unusable entries, then the entry; so many at the end -/
def gap : Nat → List CpInfo → List CpInfo
  | 0, r => r
  | n + 1, r => .unusable :: gap n r
def poolList (es : List (Nat × CpInfo)) (last : Nat) : List CpInfo := es.foldr (fun e r => gap e.1 (e.2 :: r)) (gap last [])
def pool (es : List (Nat × CpInfo)) (last : Nat) : Array CpInfo := ⟨poolList es last⟩
def fileOf (pool : Array CpInfo) (this : Nat) (attrs : Array Attribute := #[]) (ms : Array MethodInfo := #[]) (fl : Nat := 33) (sup : Nat := 0) (ifs : Array Nat := #[]) (fds : Array FieldInfo := #[]) : ClassFile where
  minorVersion := 0
  majorVersion := 65
  constantPool := pool
  accessFlags := fl
  thisClass := this
  superClass := sup
  interfaces := ifs
  fields := fds
  methods := ms
  attributes := attrs
def plain (name : String) (sup : Option ClassId) : Class where
  name := name
  kind := .ordinary
  loader := none
  accessFlags := 33
  super := sup
  interfaces := #[]
  cf := none
  fields := #[]
  methods := #[]
  instanceTypes := #[]
  staticTypes := #[]
  resolved := #[]
  callSites := []
  init := .initialized
  statics := none
  mirror := none

def pool0 : Array CpInfo := pool [(5, u "<init>"), (0, u "()V"), (1, .class_ 10), (1, u "java/lang/Object")] 113

def k0c0 : Code := { maxStack := 0, maxLocals := 1, code := object_method_1_code, exceptionTable := #[], attributes := #[] }
def k0m0 : Method := { name := "<init>", desc := "()V", sig := { parameters := [], returnType := none }, accessFlags := 1, code := some k0c0 }
/-- java/lang/Object -/
def k0 : Class := { plain "java/lang/Object" none with
  accessFlags := 33
  interfaces := #[]
  cf := some (fileOf pool0 8 #[] #[{ accessFlags := 1, nameIndex := 5, descriptorIndex := 6, attributes := #[] }] 33 0 #[] #[])
  fields := #[]
  methods := #[k0m0]
  instanceTypes := #[]
  staticTypes := #[]
  resolved := Array.replicate 124 none
  statics := none }

def pool1 : Array CpInfo := pool [(2, .class_ 4), (1, u "java/lang/Object"), (0, u "<init>"), (0, u "()V"), (2, .long 9223372036854775807), (1, .methodref 12 13), (0, .class_ 14), (0, .nameAndType 15 16), (0, u "java/lang/Math"), (0, u "min"), (0, u "(JJ)J"), (0, .methodref 12 18), (0, .nameAndType 19 16), (0, u "max"), (0, .class_ 21), (0, u "com/example/timed_net_processes/timednetprocesses/StepRange"), (0, .methodref 20 23), (0, .nameAndType 5 24), (0, u "(JJI)V"), (0, .methodref 20 26), (0, .nameAndType 27 28), (0, u "equals"), (0, u "(Ljava/lang/Object;)Z"), (0, .methodref 30 31), (0, .class_ 32), (0, .nameAndType 33 34), (0, u "java/lang/Integer"), (0, u "valueOf"), (0, u "(I)Ljava/lang/Integer;"), (0, .class_ 36), (0, u "com/example/timed_net_processes/timednetprocesses/StepRangeEqualsPinLaw"), (2, u "law"), (0, u "(JJIJJI)Z")] 3

def k1m0 : Method := { name := "<init>", desc := "()V", sig := { parameters := [], returnType := none }, accessFlags := 1, code := none }
def k1c1 : Code := { maxStack := 7, maxLocals := 31, code := code, exceptionTable := #[], attributes := #[] }
def k1m1 : Method := { name := "law", desc := "(JJIJJI)Z", sig := { parameters := [.long, .long, .int, .long, .long, .int], returnType := some .boolean }, accessFlags := 9, code := some k1c1 }
/-- com/example/timed_net_processes/timednetprocesses/StepRangeEqualsPinLaw -/
def k1 : Class := { plain "com/example/timed_net_processes/timednetprocesses/StepRangeEqualsPinLaw" (some 0) with
  accessFlags := 49
  interfaces := #[]
  cf := some (fileOf pool1 35 #[] #[{ accessFlags := 1, nameIndex := 5, descriptorIndex := 6, attributes := #[] }, { accessFlags := 9, nameIndex := 39, descriptorIndex := 40, attributes := #[] }] 49 2 #[] #[])
  fields := #[]
  methods := #[k1m0, k1m1]
  instanceTypes := #[]
  staticTypes := #[]
  resolved := Array.replicate 44 none
  statics := none }

def pool2 : Array CpInfo := pool [(1, .class_ 2), (0, u "java/lang/Math"), (1, .class_ 6), (1, u "java/lang/Object"), (0, u "<init>"), (0, u "()V"), (89, .class_ 100), (1, u "java/lang/Math$RandomNumberGeneratorHolder"), (20, u "(JJ)J"), (50, u "negativeZeroFloatBits"), (0, u "J"), (2, u "negativeZeroDoubleBits"), (21, u "max"), (2, u "min"), (43, u "$assertionsDisabled"), (0, u "Z"), (91, u "twoToTheDoubleScaleDown"), (0, u "D"), (4, u "twoToTheDoubleScaleUp"), (9, u "E"), (3, u "PI"), (2, u "TAU"), (2, u "DEGREES_TO_RADIANS"), (0, u "RADIANS_TO_DEGREES")] 94

def k2m0 : Method := { name := "<init>", desc := "()V", sig := { parameters := [], returnType := none }, accessFlags := 2, code := none }
def k2c1 : Code := { maxStack := 4, maxLocals := 4, code := jdk_29_method_66_code, exceptionTable := #[], attributes := #[] }
def k2m1 : Method := { name := "max", desc := "(JJ)J", sig := { parameters := [.long, .long], returnType := some .long }, accessFlags := 9, code := some k2c1 }
def k2c2 : Code := { maxStack := 4, maxLocals := 4, code := jdk_29_method_70_code, exceptionTable := #[], attributes := #[] }
def k2m2 : Method := { name := "min", desc := "(JJ)J", sig := { parameters := [.long, .long], returnType := some .long }, accessFlags := 9, code := some k2c2 }
/-- java/lang/Math -/
def k2 : Class := { plain "java/lang/Math" (some 0) with
  accessFlags := 49
  interfaces := #[]
  cf := some (fileOf pool2 1 #[.nestMembers #[98]] #[{ accessFlags := 2, nameIndex := 7, descriptorIndex := 8, attributes := #[] }, { accessFlags := 9, nameIndex := 198, descriptorIndex := 121, attributes := #[] }, { accessFlags := 9, nameIndex := 201, descriptorIndex := 121, attributes := #[] }] 49 4 #[] #[{ accessFlags := 25, nameIndex := 354, descriptorIndex := 339, attributes := #[] }, { accessFlags := 25, nameIndex := 358, descriptorIndex := 339, attributes := #[] }, { accessFlags := 25, nameIndex := 361, descriptorIndex := 339, attributes := #[] }, { accessFlags := 26, nameIndex := 364, descriptorIndex := 339, attributes := #[] }, { accessFlags := 26, nameIndex := 365, descriptorIndex := 339, attributes := #[] }, { accessFlags := 26, nameIndex := 172, descriptorIndex := 173, attributes := #[] }, { accessFlags := 26, nameIndex := 176, descriptorIndex := 173, attributes := #[] }, { accessFlags := 8, nameIndex := 344, descriptorIndex := 339, attributes := #[] }, { accessFlags := 8, nameIndex := 338, descriptorIndex := 339, attributes := #[] }, { accessFlags := 4120, nameIndex := 245, descriptorIndex := 246, attributes := #[] }])
  fields := #[{ name := "E", type := .double, accessFlags := 25, slot := 0, constantValue := 0 }, { name := "PI", type := .double, accessFlags := 25, slot := 1, constantValue := 0 }, { name := "TAU", type := .double, accessFlags := 25, slot := 2, constantValue := 0 }, { name := "DEGREES_TO_RADIANS", type := .double, accessFlags := 26, slot := 3, constantValue := 0 }, { name := "RADIANS_TO_DEGREES", type := .double, accessFlags := 26, slot := 4, constantValue := 0 }, { name := "negativeZeroFloatBits", type := .long, accessFlags := 26, slot := 5, constantValue := 0 }, { name := "negativeZeroDoubleBits", type := .long, accessFlags := 26, slot := 6, constantValue := 0 }, { name := "twoToTheDoubleScaleUp", type := .double, accessFlags := 8, slot := 7, constantValue := 0 }, { name := "twoToTheDoubleScaleDown", type := .double, accessFlags := 8, slot := 8, constantValue := 0 }, { name := "$assertionsDisabled", type := .boolean, accessFlags := 4120, slot := 9, constantValue := 0 }]
  methods := #[k2m0, k2m1, k2m2]
  instanceTypes := #[]
  staticTypes := #[.double, .double, .double, .double, .double, .long, .long, .double, .double, .boolean]
  resolved := Array.replicate 460 none
  statics := none }

def pool3 : Array CpInfo := pool [(1, .methodref 2 3), (0, .class_ 4), (0, .nameAndType 5 6), (0, u "java/lang/Object"), (0, u "<init>"), (0, u "()V"), (0, .fieldref 8 9), (0, .class_ 10), (0, .nameAndType 11 12), (0, u "com/example/timed_net_processes/timednetprocesses/StepRange"), (0, u "first"), (0, u "J"), (0, .fieldref 8 14), (0, .nameAndType 15 12), (0, u "last"), (0, .fieldref 8 17), (0, .nameAndType 18 19), (0, u "transition"), (0, u "I"), (10, u "(JJI)V"), (4, u "equals"), (0, u "(Ljava/lang/Object;)Z")] 20

def k3c0 : Code := { maxStack := 3, maxLocals := 6, code := prog_25_method_1_code, exceptionTable := #[], attributes := #[] }
def k3m0 : Method := { name := "<init>", desc := "(JJI)V", sig := { parameters := [.long, .long, .int], returnType := none }, accessFlags := 0, code := some k3c0 }
def k3c1 : Code := { maxStack := 4, maxLocals := 3, code := prog_25_method_5_code, exceptionTable := #[], attributes := #[] }
def k3m1 : Method := { name := "equals", desc := "(Ljava/lang/Object;)Z", sig := { parameters := [(.object "java/lang/Object")], returnType := some .boolean }, accessFlags := 1, code := some k3c1 }
/-- com/example/timed_net_processes/timednetprocesses/StepRange -/
def k3 : Class := { plain "com/example/timed_net_processes/timednetprocesses/StepRange" (some 0) with
  accessFlags := 33
  interfaces := #[]
  cf := some (fileOf pool3 8 #[] #[{ accessFlags := 0, nameIndex := 5, descriptorIndex := 30, attributes := #[] }, { accessFlags := 1, nameIndex := 35, descriptorIndex := 36, attributes := #[] }] 33 2 #[] #[{ accessFlags := 18, nameIndex := 11, descriptorIndex := 12, attributes := #[] }, { accessFlags := 18, nameIndex := 15, descriptorIndex := 12, attributes := #[] }, { accessFlags := 18, nameIndex := 18, descriptorIndex := 19, attributes := #[] }])
  fields := #[{ name := "first", type := .long, accessFlags := 18, slot := 0, constantValue := 0 }, { name := "last", type := .long, accessFlags := 18, slot := 1, constantValue := 0 }, { name := "transition", type := .int, accessFlags := 18, slot := 2, constantValue := 0 }]
  methods := #[k3m0, k3m1]
  instanceTypes := #[.long, .long, .int]
  staticTypes := #[]
  resolved := Array.replicate 57 none
  statics := none }

def pool4 : Array CpInfo := pool [(1, .class_ 2), (0, u "java/io/Serializable"), (0, .class_ 4), (0, u "java/lang/Object")] 2

/-- java/io/Serializable -/
def k4 : Class := { plain "java/io/Serializable" (some 0) with
  accessFlags := 1537
  interfaces := #[]
  cf := some (fileOf pool4 1 #[] #[] 1537 3 #[] #[])
  fields := #[]
  methods := #[]
  instanceTypes := #[]
  staticTypes := #[]
  resolved := Array.replicate 7 none
  statics := none }

def pool5 : Array CpInfo := pool [(1, .methodref 2 3), (0, .class_ 4), (0, .nameAndType 5 6), (0, u "java/lang/Object"), (0, u "<init>"), (0, u "()V"), (1, .class_ 10), (1, u "java/lang/Number"), (2, .class_ 14), (0, u "java/io/Serializable"), (0, u "serialVersionUID"), (0, u "J")] 20

def k5c0 : Code := { maxStack := 1, maxLocals := 1, code := jdk_18_method_1_code, exceptionTable := #[], attributes := #[] }
def k5m0 : Method := { name := "<init>", desc := "()V", sig := { parameters := [], returnType := none }, accessFlags := 1, code := some k5c0 }
/-- java/lang/Number -/
def k5 : Class := { plain "java/lang/Number" (some 0) with
  accessFlags := 1057
  interfaces := #[4]
  cf := some (fileOf pool5 8 #[] #[{ accessFlags := 1, nameIndex := 5, descriptorIndex := 6, attributes := #[] }] 1057 2 #[13] #[{ accessFlags := 26, nameIndex := 15, descriptorIndex := 16, attributes := #[] }])
  fields := #[{ name := "serialVersionUID", type := .long, accessFlags := 26, slot := 0, constantValue := 0 }]
  methods := #[k5m0]
  instanceTypes := #[]
  staticTypes := #[.long]
  resolved := Array.replicate 37 none
  statics := none }

def pool6 : Array CpInfo := pool [(1, .class_ 2), (0, u "java/lang/Comparable"), (0, .class_ 4), (0, u "java/lang/Object")] 7

/-- java/lang/Comparable -/
def k6 : Class := { plain "java/lang/Comparable" (some 0) with
  accessFlags := 1537
  interfaces := #[]
  cf := some (fileOf pool6 1 #[] #[] 1537 3 #[] #[])
  fields := #[]
  methods := #[]
  instanceTypes := #[]
  staticTypes := #[]
  resolved := Array.replicate 12 none
  statics := none }

def pool7 : Array CpInfo := pool [(1, .class_ 2), (0, u "java/lang/constant/Constable"), (0, .class_ 4), (0, u "java/lang/Object")] 6

/-- java/lang/constant/Constable -/
def k7 : Class := { plain "java/lang/constant/Constable" (some 0) with
  accessFlags := 1537
  interfaces := #[]
  cf := some (fileOf pool7 1 #[] #[] 1537 3 #[] #[])
  fields := #[]
  methods := #[]
  instanceTypes := #[]
  staticTypes := #[]
  resolved := Array.replicate 11 none
  statics := none }

def pool8 : Array CpInfo := pool [(1, .class_ 2), (0, u "java/lang/constant/ConstantDesc"), (0, .class_ 4), (0, u "java/lang/Object")] 32

/-- java/lang/constant/ConstantDesc -/
def k8 : Class := { plain "java/lang/constant/ConstantDesc" (some 0) with
  accessFlags := 1537
  interfaces := #[]
  cf := some (fileOf pool8 1 #[] #[] 1537 3 #[] #[])
  fields := #[]
  methods := #[]
  instanceTypes := #[]
  staticTypes := #[]
  resolved := Array.replicate 37 none
  statics := none }

def pool9 : Array CpInfo := pool [(1, .class_ 2), (0, u "java/lang/Integer"), (16, u "digits"), (0, u "[C"), (46, u "<init>"), (17, u "DigitOnes"), (0, u "[B"), (2, u "DigitTens"), (10, .nameAndType 67 101), (0, u "()V"), (85, u "valueOf"), (0, u "(I)Ljava/lang/Integer;"), (0, .class_ 190), (0, u "java/lang/Integer$IntegerCache"), (0, .fieldref 189 192), (0, .nameAndType 193 194), (0, u "high"), (0, u "I"), (0, .fieldref 189 196), (0, .nameAndType 197 198), (0, u "cache"), (0, u "[Ljava/lang/Integer;"), (0, .methodref 1 200), (0, .nameAndType 67 201), (0, u "(I)V"), (0, .methodref 203 100), (0, .class_ 204), (0, u "java/lang/Number"), (0, .fieldref 1 206), (0, .nameAndType 207 194), (0, u "value"), (94, u "TYPE"), (0, u "Ljava/lang/Class;"), (0, .class_ 305), (0, u "java/lang/Comparable"), (0, .class_ 307), (0, u "java/lang/constant/Constable"), (0, .class_ 309), (0, u "java/lang/constant/ConstantDesc"), (0, u "MIN_VALUE"), (1, u "MAX_VALUE"), (3, u "SIZE"), (1, u "BYTES"), (1, u "serialVersionUID"), (0, u "J")] 131

def k9c0 : Code := { maxStack := 3, maxLocals := 1, code := jdk_33_method_22_code, exceptionTable := #[], attributes := #[] }
def k9m0 : Method := { name := "valueOf", desc := "(I)Ljava/lang/Integer;", sig := { parameters := [.int], returnType := some (.object "java/lang/Integer") }, accessFlags := 9, code := some k9c0 }
def k9c1 : Code := { maxStack := 2, maxLocals := 2, code := jdk_33_method_23_code, exceptionTable := #[], attributes := #[] }
def k9m1 : Method := { name := "<init>", desc := "(I)V", sig := { parameters := [.int], returnType := none }, accessFlags := 1, code := some k9c1 }
/-- java/lang/Integer -/
def k9 : Class := { plain "java/lang/Integer" (some 5) with
  accessFlags := 49
  interfaces := #[6, 7, 8]
  cf := some (fileOf pool9 1 #[.nestMembers #[189]] #[{ accessFlags := 9, nameIndex := 187, descriptorIndex := 188, attributes := #[] }, { accessFlags := 1, nameIndex := 67, descriptorIndex := 201, attributes := #[] }] 49 203 #[304, 306, 308] #[{ accessFlags := 25, nameIndex := 310, descriptorIndex := 194, attributes := #[] }, { accessFlags := 25, nameIndex := 312, descriptorIndex := 194, attributes := #[] }, { accessFlags := 25, nameIndex := 302, descriptorIndex := 303, attributes := #[] }, { accessFlags := 24, nameIndex := 19, descriptorIndex := 20, attributes := #[] }, { accessFlags := 24, nameIndex := 89, descriptorIndex := 86, attributes := #[] }, { accessFlags := 24, nameIndex := 85, descriptorIndex := 86, attributes := #[] }, { accessFlags := 18, nameIndex := 207, descriptorIndex := 194, attributes := #[] }, { accessFlags := 25, nameIndex := 316, descriptorIndex := 194, attributes := #[] }, { accessFlags := 25, nameIndex := 318, descriptorIndex := 194, attributes := #[] }, { accessFlags := 26, nameIndex := 320, descriptorIndex := 321, attributes := #[] }])
  fields := #[{ name := "MIN_VALUE", type := .int, accessFlags := 25, slot := 0, constantValue := 0 }, { name := "MAX_VALUE", type := .int, accessFlags := 25, slot := 1, constantValue := 0 }, { name := "TYPE", type := (.object "java/lang/Class"), accessFlags := 25, slot := 2, constantValue := 0 }, { name := "digits", type := (.array .char), accessFlags := 24, slot := 3, constantValue := 0 }, { name := "DigitTens", type := (.array .byte), accessFlags := 24, slot := 4, constantValue := 0 }, { name := "DigitOnes", type := (.array .byte), accessFlags := 24, slot := 5, constantValue := 0 }, { name := "value", type := .int, accessFlags := 18, slot := 0, constantValue := 0 }, { name := "SIZE", type := .int, accessFlags := 25, slot := 6, constantValue := 0 }, { name := "BYTES", type := .int, accessFlags := 25, slot := 7, constantValue := 0 }, { name := "serialVersionUID", type := .long, accessFlags := 26, slot := 8, constantValue := 0 }]
  methods := #[k9m0, k9m1]
  instanceTypes := #[.int]
  staticTypes := #[.int, .int, (.object "java/lang/Class"), (.array .char), (.array .byte), (.array .byte), .int, .int, .long]
  resolved := Array.replicate 453 none
  statics := none }

def pool10 : Array CpInfo := pool [(2, .class_ 4), (1, u "java/lang/Object"), (0, u "<init>"), (0, u "()V"), (0, .class_ 8), (0, u "java/lang/Integer"), (7, .class_ 18), (1, u "java/lang/Integer$IntegerCache"), (0, u "$assertionsDisabled"), (0, u "Z"), (26, u "high"), (0, u "I"), (8, u "archivedCache"), (0, u "[Ljava/lang/Integer;"), (12, u "cache"), (0, u "low")] 27

def k10m0 : Method := { name := "<init>", desc := "()V", sig := { parameters := [], returnType := none }, accessFlags := 2, code := none }
/-- java/lang/Integer$IntegerCache -/
def k10 : Class := { plain "java/lang/Integer$IntegerCache" (some 0) with
  accessFlags := 48
  interfaces := #[]
  cf := some (fileOf pool10 16 #[.nestHost 7] #[{ accessFlags := 2, nameIndex := 5, descriptorIndex := 6, attributes := #[] }] 48 2 #[] #[{ accessFlags := 24, nameIndex := 72, descriptorIndex := 48, attributes := #[] }, { accessFlags := 24, nameIndex := 47, descriptorIndex := 48, attributes := #[] }, { accessFlags := 24, nameIndex := 71, descriptorIndex := 58, attributes := #[] }, { accessFlags := 8, nameIndex := 57, descriptorIndex := 58, attributes := #[] }, { accessFlags := 4120, nameIndex := 19, descriptorIndex := 20, attributes := #[] }])
  fields := #[{ name := "low", type := .int, accessFlags := 24, slot := 0, constantValue := 0 }, { name := "high", type := .int, accessFlags := 24, slot := 1, constantValue := 0 }, { name := "cache", type := (.array (.object "java/lang/Integer")), accessFlags := 24, slot := 2, constantValue := 0 }, { name := "archivedCache", type := (.array (.object "java/lang/Integer")), accessFlags := 8, slot := 3, constantValue := 0 }, { name := "$assertionsDisabled", type := .boolean, accessFlags := 4120, slot := 4, constantValue := 0 }]
  methods := #[k10m0]
  instanceTypes := #[]
  staticTypes := #[.int, .int, (.array (.object "java/lang/Integer")), (.array (.object "java/lang/Integer")), .boolean]
  resolved := Array.replicate 100 none
  statics := some 0 }

def pool11 : Array CpInfo := pool [(1, u "java/lang/Cloneable"), (0, .class_ 1), (0, u "java/lang/Object"), (0, .class_ 3)] 3

/-- java/lang/Cloneable -/
def k11 : Class := { plain "java/lang/Cloneable" (some 0) with
  accessFlags := 1537
  interfaces := #[]
  cf := some (fileOf pool11 2 #[] #[] 1537 4 #[] #[])
  fields := #[]
  methods := #[]
  instanceTypes := #[]
  staticTypes := #[]
  resolved := Array.replicate 8 none
  statics := none }

/-- the primitive byte -/
def k12 : Class := { plain "byte" none with kind := .primitive 'B', accessFlags := 0x411 }
/-- [B -/
def k13 : Class := { plain "[B" (some 0) with kind := .array 12 .byte, interfaces := #[11, 4], accessFlags := 1041 }

/-- the primitive int -/
def k14 : Class := { plain "int" none with kind := .primitive 'I', accessFlags := 0x411 }
/-- [I -/
def k15 : Class := { plain "[I" (some 0) with kind := .array 14 .int, interfaces := #[11, 4], accessFlags := 1041 }

/-- [Ljava/lang/Integer; -/
def k16 : Class := { plain "[Ljava/lang/Integer;" (some 0) with kind := .array 9 (.object "java/lang/Integer"), interfaces := #[11, 4], accessFlags := 1041 }

def heap : Heap := #[{ cls := 10, slots := #[.int 0, .int 127, .ref 1, .null, .int 0], vm := .statics 10 },
  { cls := 16, slots := #[.ref 2, .ref 3, .ref 4, .ref 5, .ref 6, .ref 7, .ref 8, .ref 9, .ref 10, .ref 11, .ref 12, .ref 13, .ref 14, .ref 15, .ref 16, .ref 17, .ref 18, .ref 19, .ref 20, .ref 21, .ref 22, .ref 23, .ref 24, .ref 25, .ref 26, .ref 27, .ref 28, .ref 29, .ref 30, .ref 31, .ref 32, .ref 33, .ref 34, .ref 35, .ref 36, .ref 37, .ref 38, .ref 39, .ref 40, .ref 41, .ref 42, .ref 43, .ref 44, .ref 45, .ref 46, .ref 47, .ref 48, .ref 49, .ref 50, .ref 51, .ref 52, .ref 53, .ref 54, .ref 55, .ref 56, .ref 57, .ref 58, .ref 59, .ref 60, .ref 61, .ref 62, .ref 63, .ref 64, .ref 65, .ref 66, .ref 67, .ref 68, .ref 69, .ref 70, .ref 71, .ref 72, .ref 73, .ref 74, .ref 75, .ref 76, .ref 77, .ref 78, .ref 79, .ref 80, .ref 81, .ref 82, .ref 83, .ref 84, .ref 85, .ref 86, .ref 87, .ref 88, .ref 89, .ref 90, .ref 91, .ref 92, .ref 93, .ref 94, .ref 95, .ref 96, .ref 97, .ref 98, .ref 99, .ref 100, .ref 101, .ref 102, .ref 103, .ref 104, .ref 105, .ref 106, .ref 107, .ref 108, .ref 109, .ref 110, .ref 111, .ref 112, .ref 113, .ref 114, .ref 115, .ref 116, .ref 117, .ref 118, .ref 119, .ref 120, .ref 121, .ref 122, .ref 123, .ref 124, .ref 125, .ref 126, .ref 127, .ref 128, .ref 129, .ref 130, .ref 131, .ref 132, .ref 133, .ref 134, .ref 135, .ref 136, .ref 137, .ref 138, .ref 139, .ref 140, .ref 141, .ref 142, .ref 143, .ref 144, .ref 145, .ref 146, .ref 147, .ref 148, .ref 149, .ref 150, .ref 151, .ref 152, .ref 153, .ref 154, .ref 155, .ref 156, .ref 157, .ref 158, .ref 159, .ref 160, .ref 161, .ref 162, .ref 163, .ref 164, .ref 165, .ref 166, .ref 167, .ref 168, .ref 169, .ref 170, .ref 171, .ref 172, .ref 173, .ref 174, .ref 175, .ref 176, .ref 177, .ref 178, .ref 179, .ref 180, .ref 181, .ref 182, .ref 183, .ref 184, .ref 185, .ref 186, .ref 187, .ref 188, .ref 189, .ref 190, .ref 191, .ref 192, .ref 193, .ref 194, .ref 195, .ref 196, .ref 197, .ref 198, .ref 199, .ref 200, .ref 201, .ref 202, .ref 203, .ref 204, .ref 205, .ref 206, .ref 207, .ref 208, .ref 209, .ref 210, .ref 211, .ref 212, .ref 213, .ref 214, .ref 215, .ref 216, .ref 217, .ref 218, .ref 219, .ref 220, .ref 221, .ref 222, .ref 223, .ref 224, .ref 225, .ref 226, .ref 227, .ref 228, .ref 229, .ref 230, .ref 231, .ref 232, .ref 233, .ref 234, .ref 235, .ref 236, .ref 237, .ref 238, .ref 239, .ref 240, .ref 241, .ref 242, .ref 243, .ref 244, .ref 245, .ref 246, .ref 247, .ref 248, .ref 249, .ref 250, .ref 251, .ref 252, .ref 253, .ref 254, .ref 255, .ref 256, .ref 257], vm := .none },
  { cls := 9, slots := #[.int (-128)], vm := .none },
  { cls := 9, slots := #[.int (-127)], vm := .none },
  { cls := 9, slots := #[.int (-126)], vm := .none },
  { cls := 9, slots := #[.int (-125)], vm := .none },
  { cls := 9, slots := #[.int (-124)], vm := .none },
  { cls := 9, slots := #[.int (-123)], vm := .none },
  { cls := 9, slots := #[.int (-122)], vm := .none },
  { cls := 9, slots := #[.int (-121)], vm := .none },
  { cls := 9, slots := #[.int (-120)], vm := .none },
  { cls := 9, slots := #[.int (-119)], vm := .none },
  { cls := 9, slots := #[.int (-118)], vm := .none },
  { cls := 9, slots := #[.int (-117)], vm := .none },
  { cls := 9, slots := #[.int (-116)], vm := .none },
  { cls := 9, slots := #[.int (-115)], vm := .none },
  { cls := 9, slots := #[.int (-114)], vm := .none },
  { cls := 9, slots := #[.int (-113)], vm := .none },
  { cls := 9, slots := #[.int (-112)], vm := .none },
  { cls := 9, slots := #[.int (-111)], vm := .none },
  { cls := 9, slots := #[.int (-110)], vm := .none },
  { cls := 9, slots := #[.int (-109)], vm := .none },
  { cls := 9, slots := #[.int (-108)], vm := .none },
  { cls := 9, slots := #[.int (-107)], vm := .none },
  { cls := 9, slots := #[.int (-106)], vm := .none },
  { cls := 9, slots := #[.int (-105)], vm := .none },
  { cls := 9, slots := #[.int (-104)], vm := .none },
  { cls := 9, slots := #[.int (-103)], vm := .none },
  { cls := 9, slots := #[.int (-102)], vm := .none },
  { cls := 9, slots := #[.int (-101)], vm := .none },
  { cls := 9, slots := #[.int (-100)], vm := .none },
  { cls := 9, slots := #[.int (-99)], vm := .none },
  { cls := 9, slots := #[.int (-98)], vm := .none },
  { cls := 9, slots := #[.int (-97)], vm := .none },
  { cls := 9, slots := #[.int (-96)], vm := .none },
  { cls := 9, slots := #[.int (-95)], vm := .none },
  { cls := 9, slots := #[.int (-94)], vm := .none },
  { cls := 9, slots := #[.int (-93)], vm := .none },
  { cls := 9, slots := #[.int (-92)], vm := .none },
  { cls := 9, slots := #[.int (-91)], vm := .none },
  { cls := 9, slots := #[.int (-90)], vm := .none },
  { cls := 9, slots := #[.int (-89)], vm := .none },
  { cls := 9, slots := #[.int (-88)], vm := .none },
  { cls := 9, slots := #[.int (-87)], vm := .none },
  { cls := 9, slots := #[.int (-86)], vm := .none },
  { cls := 9, slots := #[.int (-85)], vm := .none },
  { cls := 9, slots := #[.int (-84)], vm := .none },
  { cls := 9, slots := #[.int (-83)], vm := .none },
  { cls := 9, slots := #[.int (-82)], vm := .none },
  { cls := 9, slots := #[.int (-81)], vm := .none },
  { cls := 9, slots := #[.int (-80)], vm := .none },
  { cls := 9, slots := #[.int (-79)], vm := .none },
  { cls := 9, slots := #[.int (-78)], vm := .none },
  { cls := 9, slots := #[.int (-77)], vm := .none },
  { cls := 9, slots := #[.int (-76)], vm := .none },
  { cls := 9, slots := #[.int (-75)], vm := .none },
  { cls := 9, slots := #[.int (-74)], vm := .none },
  { cls := 9, slots := #[.int (-73)], vm := .none },
  { cls := 9, slots := #[.int (-72)], vm := .none },
  { cls := 9, slots := #[.int (-71)], vm := .none },
  { cls := 9, slots := #[.int (-70)], vm := .none },
  { cls := 9, slots := #[.int (-69)], vm := .none },
  { cls := 9, slots := #[.int (-68)], vm := .none },
  { cls := 9, slots := #[.int (-67)], vm := .none },
  { cls := 9, slots := #[.int (-66)], vm := .none },
  { cls := 9, slots := #[.int (-65)], vm := .none },
  { cls := 9, slots := #[.int (-64)], vm := .none },
  { cls := 9, slots := #[.int (-63)], vm := .none },
  { cls := 9, slots := #[.int (-62)], vm := .none },
  { cls := 9, slots := #[.int (-61)], vm := .none },
  { cls := 9, slots := #[.int (-60)], vm := .none },
  { cls := 9, slots := #[.int (-59)], vm := .none },
  { cls := 9, slots := #[.int (-58)], vm := .none },
  { cls := 9, slots := #[.int (-57)], vm := .none },
  { cls := 9, slots := #[.int (-56)], vm := .none },
  { cls := 9, slots := #[.int (-55)], vm := .none },
  { cls := 9, slots := #[.int (-54)], vm := .none },
  { cls := 9, slots := #[.int (-53)], vm := .none },
  { cls := 9, slots := #[.int (-52)], vm := .none },
  { cls := 9, slots := #[.int (-51)], vm := .none },
  { cls := 9, slots := #[.int (-50)], vm := .none },
  { cls := 9, slots := #[.int (-49)], vm := .none },
  { cls := 9, slots := #[.int (-48)], vm := .none },
  { cls := 9, slots := #[.int (-47)], vm := .none },
  { cls := 9, slots := #[.int (-46)], vm := .none },
  { cls := 9, slots := #[.int (-45)], vm := .none },
  { cls := 9, slots := #[.int (-44)], vm := .none },
  { cls := 9, slots := #[.int (-43)], vm := .none },
  { cls := 9, slots := #[.int (-42)], vm := .none },
  { cls := 9, slots := #[.int (-41)], vm := .none },
  { cls := 9, slots := #[.int (-40)], vm := .none },
  { cls := 9, slots := #[.int (-39)], vm := .none },
  { cls := 9, slots := #[.int (-38)], vm := .none },
  { cls := 9, slots := #[.int (-37)], vm := .none },
  { cls := 9, slots := #[.int (-36)], vm := .none },
  { cls := 9, slots := #[.int (-35)], vm := .none },
  { cls := 9, slots := #[.int (-34)], vm := .none },
  { cls := 9, slots := #[.int (-33)], vm := .none },
  { cls := 9, slots := #[.int (-32)], vm := .none },
  { cls := 9, slots := #[.int (-31)], vm := .none },
  { cls := 9, slots := #[.int (-30)], vm := .none },
  { cls := 9, slots := #[.int (-29)], vm := .none },
  { cls := 9, slots := #[.int (-28)], vm := .none },
  { cls := 9, slots := #[.int (-27)], vm := .none },
  { cls := 9, slots := #[.int (-26)], vm := .none },
  { cls := 9, slots := #[.int (-25)], vm := .none },
  { cls := 9, slots := #[.int (-24)], vm := .none },
  { cls := 9, slots := #[.int (-23)], vm := .none },
  { cls := 9, slots := #[.int (-22)], vm := .none },
  { cls := 9, slots := #[.int (-21)], vm := .none },
  { cls := 9, slots := #[.int (-20)], vm := .none },
  { cls := 9, slots := #[.int (-19)], vm := .none },
  { cls := 9, slots := #[.int (-18)], vm := .none },
  { cls := 9, slots := #[.int (-17)], vm := .none },
  { cls := 9, slots := #[.int (-16)], vm := .none },
  { cls := 9, slots := #[.int (-15)], vm := .none },
  { cls := 9, slots := #[.int (-14)], vm := .none },
  { cls := 9, slots := #[.int (-13)], vm := .none },
  { cls := 9, slots := #[.int (-12)], vm := .none },
  { cls := 9, slots := #[.int (-11)], vm := .none },
  { cls := 9, slots := #[.int (-10)], vm := .none },
  { cls := 9, slots := #[.int (-9)], vm := .none },
  { cls := 9, slots := #[.int (-8)], vm := .none },
  { cls := 9, slots := #[.int (-7)], vm := .none },
  { cls := 9, slots := #[.int (-6)], vm := .none },
  { cls := 9, slots := #[.int (-5)], vm := .none },
  { cls := 9, slots := #[.int (-4)], vm := .none },
  { cls := 9, slots := #[.int (-3)], vm := .none },
  { cls := 9, slots := #[.int (-2)], vm := .none },
  { cls := 9, slots := #[.int (-1)], vm := .none },
  { cls := 9, slots := #[.int 0], vm := .none },
  { cls := 9, slots := #[.int 1], vm := .none },
  { cls := 9, slots := #[.int 2], vm := .none },
  { cls := 9, slots := #[.int 3], vm := .none },
  { cls := 9, slots := #[.int 4], vm := .none },
  { cls := 9, slots := #[.int 5], vm := .none },
  { cls := 9, slots := #[.int 6], vm := .none },
  { cls := 9, slots := #[.int 7], vm := .none },
  { cls := 9, slots := #[.int 8], vm := .none },
  { cls := 9, slots := #[.int 9], vm := .none },
  { cls := 9, slots := #[.int 10], vm := .none },
  { cls := 9, slots := #[.int 11], vm := .none },
  { cls := 9, slots := #[.int 12], vm := .none },
  { cls := 9, slots := #[.int 13], vm := .none },
  { cls := 9, slots := #[.int 14], vm := .none },
  { cls := 9, slots := #[.int 15], vm := .none },
  { cls := 9, slots := #[.int 16], vm := .none },
  { cls := 9, slots := #[.int 17], vm := .none },
  { cls := 9, slots := #[.int 18], vm := .none },
  { cls := 9, slots := #[.int 19], vm := .none },
  { cls := 9, slots := #[.int 20], vm := .none },
  { cls := 9, slots := #[.int 21], vm := .none },
  { cls := 9, slots := #[.int 22], vm := .none },
  { cls := 9, slots := #[.int 23], vm := .none },
  { cls := 9, slots := #[.int 24], vm := .none },
  { cls := 9, slots := #[.int 25], vm := .none },
  { cls := 9, slots := #[.int 26], vm := .none },
  { cls := 9, slots := #[.int 27], vm := .none },
  { cls := 9, slots := #[.int 28], vm := .none },
  { cls := 9, slots := #[.int 29], vm := .none },
  { cls := 9, slots := #[.int 30], vm := .none },
  { cls := 9, slots := #[.int 31], vm := .none },
  { cls := 9, slots := #[.int 32], vm := .none },
  { cls := 9, slots := #[.int 33], vm := .none },
  { cls := 9, slots := #[.int 34], vm := .none },
  { cls := 9, slots := #[.int 35], vm := .none },
  { cls := 9, slots := #[.int 36], vm := .none },
  { cls := 9, slots := #[.int 37], vm := .none },
  { cls := 9, slots := #[.int 38], vm := .none },
  { cls := 9, slots := #[.int 39], vm := .none },
  { cls := 9, slots := #[.int 40], vm := .none },
  { cls := 9, slots := #[.int 41], vm := .none },
  { cls := 9, slots := #[.int 42], vm := .none },
  { cls := 9, slots := #[.int 43], vm := .none },
  { cls := 9, slots := #[.int 44], vm := .none },
  { cls := 9, slots := #[.int 45], vm := .none },
  { cls := 9, slots := #[.int 46], vm := .none },
  { cls := 9, slots := #[.int 47], vm := .none },
  { cls := 9, slots := #[.int 48], vm := .none },
  { cls := 9, slots := #[.int 49], vm := .none },
  { cls := 9, slots := #[.int 50], vm := .none },
  { cls := 9, slots := #[.int 51], vm := .none },
  { cls := 9, slots := #[.int 52], vm := .none },
  { cls := 9, slots := #[.int 53], vm := .none },
  { cls := 9, slots := #[.int 54], vm := .none },
  { cls := 9, slots := #[.int 55], vm := .none },
  { cls := 9, slots := #[.int 56], vm := .none },
  { cls := 9, slots := #[.int 57], vm := .none },
  { cls := 9, slots := #[.int 58], vm := .none },
  { cls := 9, slots := #[.int 59], vm := .none },
  { cls := 9, slots := #[.int 60], vm := .none },
  { cls := 9, slots := #[.int 61], vm := .none },
  { cls := 9, slots := #[.int 62], vm := .none },
  { cls := 9, slots := #[.int 63], vm := .none },
  { cls := 9, slots := #[.int 64], vm := .none },
  { cls := 9, slots := #[.int 65], vm := .none },
  { cls := 9, slots := #[.int 66], vm := .none },
  { cls := 9, slots := #[.int 67], vm := .none },
  { cls := 9, slots := #[.int 68], vm := .none },
  { cls := 9, slots := #[.int 69], vm := .none },
  { cls := 9, slots := #[.int 70], vm := .none },
  { cls := 9, slots := #[.int 71], vm := .none },
  { cls := 9, slots := #[.int 72], vm := .none },
  { cls := 9, slots := #[.int 73], vm := .none },
  { cls := 9, slots := #[.int 74], vm := .none },
  { cls := 9, slots := #[.int 75], vm := .none },
  { cls := 9, slots := #[.int 76], vm := .none },
  { cls := 9, slots := #[.int 77], vm := .none },
  { cls := 9, slots := #[.int 78], vm := .none },
  { cls := 9, slots := #[.int 79], vm := .none },
  { cls := 9, slots := #[.int 80], vm := .none },
  { cls := 9, slots := #[.int 81], vm := .none },
  { cls := 9, slots := #[.int 82], vm := .none },
  { cls := 9, slots := #[.int 83], vm := .none },
  { cls := 9, slots := #[.int 84], vm := .none },
  { cls := 9, slots := #[.int 85], vm := .none },
  { cls := 9, slots := #[.int 86], vm := .none },
  { cls := 9, slots := #[.int 87], vm := .none },
  { cls := 9, slots := #[.int 88], vm := .none },
  { cls := 9, slots := #[.int 89], vm := .none },
  { cls := 9, slots := #[.int 90], vm := .none },
  { cls := 9, slots := #[.int 91], vm := .none },
  { cls := 9, slots := #[.int 92], vm := .none },
  { cls := 9, slots := #[.int 93], vm := .none },
  { cls := 9, slots := #[.int 94], vm := .none },
  { cls := 9, slots := #[.int 95], vm := .none },
  { cls := 9, slots := #[.int 96], vm := .none },
  { cls := 9, slots := #[.int 97], vm := .none },
  { cls := 9, slots := #[.int 98], vm := .none },
  { cls := 9, slots := #[.int 99], vm := .none },
  { cls := 9, slots := #[.int 100], vm := .none },
  { cls := 9, slots := #[.int 101], vm := .none },
  { cls := 9, slots := #[.int 102], vm := .none },
  { cls := 9, slots := #[.int 103], vm := .none },
  { cls := 9, slots := #[.int 104], vm := .none },
  { cls := 9, slots := #[.int 105], vm := .none },
  { cls := 9, slots := #[.int 106], vm := .none },
  { cls := 9, slots := #[.int 107], vm := .none },
  { cls := 9, slots := #[.int 108], vm := .none },
  { cls := 9, slots := #[.int 109], vm := .none },
  { cls := 9, slots := #[.int 110], vm := .none },
  { cls := 9, slots := #[.int 111], vm := .none },
  { cls := 9, slots := #[.int 112], vm := .none },
  { cls := 9, slots := #[.int 113], vm := .none },
  { cls := 9, slots := #[.int 114], vm := .none },
  { cls := 9, slots := #[.int 115], vm := .none },
  { cls := 9, slots := #[.int 116], vm := .none },
  { cls := 9, slots := #[.int 117], vm := .none },
  { cls := 9, slots := #[.int 118], vm := .none },
  { cls := 9, slots := #[.int 119], vm := .none },
  { cls := 9, slots := #[.int 120], vm := .none },
  { cls := 9, slots := #[.int 121], vm := .none },
  { cls := 9, slots := #[.int 122], vm := .none },
  { cls := 9, slots := #[.int 123], vm := .none },
  { cls := 9, slots := #[.int 124], vm := .none },
  { cls := 9, slots := #[.int 125], vm := .none },
  { cls := 9, slots := #[.int 126], vm := .none },
  { cls := 9, slots := #[.int 127], vm := .none }]
def classes : Array Class := #[k0, k1, k2, k3, k4, k5, k6, k7, k8, k9, k10, k11, k12, k13, k14, k15, k16]
def interned : List (Array UInt16 × Addr) := []
def slotsUsed : Nat := 517
def theMethod : MethodId := ⟨1, 1⟩
def args0 : Array Value := #[.long 5, .long 7, .int 9, .long 3, .long 4, .int 1]
def aboutOver (below : List Frame) : State where
  vm := { classes := classes, interned := interned.toArray }
  heap := heap
  slotsUsed := slotsUsed
  threads := #[{ frames := .invoking theMethod args0 :: below }]
def below0 : List Frame := [.native { method := ⟨0, 0⟩, args := #[] }]
def about1 : State := aboutOver below0
def p0 : Program := .bare "" "" ""
def e0 : Env := launch0.env 0 0 0
theorem w_frames : about1.frames = Frame.invoking theMethod args0 :: below0 := rfl
set_option maxRecDepth 65536 in
theorem w_args : argsFit about1.vm theMethod args0 = true := by decide +kernel
set_option maxRecDepth 65536 in
theorem w_heap : heapFits about1 = true := by decide +kernel
set_option maxRecDepth 65536 in
theorem w_runnable : about1.curStatus? = some .runnable := by decide +kernel
set_option maxRecDepth 65536 in
theorem w_alone : about1.alone = true := by decide +kernel
set_option maxRecDepth 65536 in
theorem w_named : about1.methodNamed? x = some theMethod := by decide +kernel
set_option maxRecDepth 65536 in
theorem w_hears : about1.hears theMethod below0 = true := by decide +kernel
set_option maxRecDepth 65536 in
theorem w_ripe : about1.ripe theMethod args0 below0 = true := by decide +kernel
theorem w_running : about1.status = .running := rfl
set_option maxRecDepth 65536 in
theorem w_room : about1.hasRoom e0.platform room_1 = true :=
  launch0.hasRoom_least _ room_1 (by decide +kernel) (by decide +kernel) (by decide +kernel) (by decide +kernel) (by decide +kernel) (by decide +kernel)
theorem allAtoms_all (ts : List Jvm.Cond) (a : Array Jvm.Value) (st : Jvm.State) : (allAtoms ts).before a st = ts.all (fun c => c.before a st) := by
  induction ts with
  | nil => rfl
  | cons c t ih =>
    show (Jvm.Cond.and c (allAtoms t)).before a st = _
    rw [Jvm.Cond.before_and, ih, List.all_cons]
def words1 : List Jvm.Cond := Jvm.Cond.code x code maxLocals ret :: tables_1
/-- a 'code' word, met by the world's own term for the bytes: nothing is compared byte by byte -/
theorem code_word {y : MethodName} {bytes : ByteArray} {mx : Nat} {rt : Option FieldType} {a : Array Value} {s : State} {m : MethodId} {meth : Method} {c : Code} (h1 : s.methodNamed? y = some m) (h2 : s.vm.method? m = some meth) (h3 : meth.code = some c) (h4 : c.code = bytes)
    (h5 : (c.maxLocals == mx && c.exceptionTable.isEmpty && decide (c.maxStack ≤ mostOperands) && decide (meth.sig.returnType = rt) && !meth.locks && decide (parseMethodDescriptor y.desc = some meth.sig)) = true) : (Jvm.Cond.code y bytes mx rt).before a s = true := by
  simp only [Bool.and_eq_true, beq_iff_eq, Bool.not_eq_true', decide_eq_true_eq] at h5
  obtain ⟨⟨⟨⟨⟨g1, g2⟩, g3⟩, g4⟩, g5⟩, g6⟩ := h5
  simp [Cond.before, Cond.holds, Cond.value, h1, h2, h3, h4, g1, g2, g3, g4, g5, g6]
def isCode : Jvm.Cond → Bool
  | .code _ _ _ _ => true
  | _ => false
theorem all_split {L : List Jvm.Cond} {P : Jvm.Cond → Bool} (h1 : L.all (fun c => isCode c || P c) = true) (h2 : ∀ c ∈ L.filter isCode, P c = true) : L.all P = true := by
  refine List.all_eq_true.mpr fun c hc => ?_
  have h := List.all_eq_true.mp h1 c hc
  rcases Bool.eq_false_or_eq_true (isCode c) with hi | hi
  · exact h2 c (List.mem_filter.mpr ⟨hc, hi⟩)
  · simpa [hi] using h
set_option maxRecDepth 65536 in
theorem w_c0 : (Jvm.Cond.code x code maxLocals ret).before args0 about1 = true := code_word (m := ⟨1, 1⟩) (meth := k1m1) (c := k1c1) (by decide +kernel) rfl rfl rfl (by decide +kernel)
set_option maxRecDepth 65536 in
theorem w_c1 : (Jvm.Cond.code ({ cls := "java/lang/Math", name := "min", desc := "(JJ)J" } : Jvm.MethodName) jdk_29_method_70_code (4 : Nat) (Option.some Jvm.ClassFile.FieldType.long)).before args0 about1 = true := code_word (m := ⟨2, 2⟩) (meth := k2m2) (c := k2c2) (by decide +kernel) rfl rfl rfl (by decide +kernel)
set_option maxRecDepth 65536 in
theorem w_c2 : (Jvm.Cond.code ({ cls := "java/lang/Math", name := "max", desc := "(JJ)J" } : Jvm.MethodName) jdk_29_method_66_code (4 : Nat) (Option.some Jvm.ClassFile.FieldType.long)).before args0 about1 = true := code_word (m := ⟨2, 1⟩) (meth := k2m1) (c := k2c1) (by decide +kernel) rfl rfl rfl (by decide +kernel)
set_option maxRecDepth 65536 in
theorem w_c3 : (Jvm.Cond.code ({ cls := "com/example/timed_net_processes/timednetprocesses/StepRange", name := "<init>", desc := "(JJI)V" } : Jvm.MethodName) prog_25_method_1_code (6 : Nat) (Option.none : Option Jvm.ClassFile.FieldType)).before args0 about1 = true := code_word (m := ⟨3, 0⟩) (meth := k3m0) (c := k3c0) (by decide +kernel) rfl rfl rfl (by decide +kernel)
set_option maxRecDepth 65536 in
theorem w_c4 : (Jvm.Cond.code ({ cls := "java/lang/Object", name := "<init>", desc := "()V" } : Jvm.MethodName) object_method_1_code (1 : Nat) (Option.none : Option Jvm.ClassFile.FieldType)).before args0 about1 = true := code_word (m := ⟨0, 0⟩) (meth := k0m0) (c := k0c0) (by decide +kernel) rfl rfl rfl (by decide +kernel)
set_option maxRecDepth 65536 in
theorem w_c5 : (Jvm.Cond.code ({ cls := "com/example/timed_net_processes/timednetprocesses/StepRange", name := "equals", desc := "(Ljava/lang/Object;)Z" } : Jvm.MethodName) prog_25_method_5_code (3 : Nat) (Option.some Jvm.ClassFile.FieldType.boolean)).before args0 about1 = true := code_word (m := ⟨3, 1⟩) (meth := k3m1) (c := k3c1) (by decide +kernel) rfl rfl rfl (by decide +kernel)
set_option maxRecDepth 65536 in
theorem w_c6 : (Jvm.Cond.code ({ cls := "java/lang/Integer", name := "valueOf", desc := "(I)Ljava/lang/Integer;" } : Jvm.MethodName) jdk_33_method_22_code (1 : Nat) (Option.some (Jvm.ClassFile.FieldType.object "java/lang/Integer"))).before args0 about1 = true := code_word (m := ⟨9, 0⟩) (meth := k9m0) (c := k9c0) (by decide +kernel) rfl rfl rfl (by decide +kernel)
set_option maxRecDepth 65536 in
theorem w_c7 : (Jvm.Cond.code ({ cls := "java/lang/Integer", name := "<init>", desc := "(I)V" } : Jvm.MethodName) jdk_33_method_23_code (2 : Nat) (Option.none : Option Jvm.ClassFile.FieldType)).before args0 about1 = true := code_word (m := ⟨9, 1⟩) (meth := k9m1) (c := k9c1) (by decide +kernel) rfl rfl rfl (by decide +kernel)
set_option maxRecDepth 65536 in
theorem w_c8 : (Jvm.Cond.code ({ cls := "java/lang/Number", name := "<init>", desc := "()V" } : Jvm.MethodName) jdk_18_method_1_code (1 : Nat) (Option.none : Option Jvm.ClassFile.FieldType)).before args0 about1 = true := code_word (m := ⟨5, 0⟩) (meth := k5m0) (c := k5c0) (by decide +kernel) rfl rfl rfl (by decide +kernel)
def codes1 : List Jvm.Cond := [Jvm.Cond.code x code maxLocals ret, Jvm.Cond.code ({ cls := "java/lang/Math", name := "min", desc := "(JJ)J" } : Jvm.MethodName) jdk_29_method_70_code (4 : Nat) (Option.some Jvm.ClassFile.FieldType.long), Jvm.Cond.code ({ cls := "java/lang/Math", name := "max", desc := "(JJ)J" } : Jvm.MethodName) jdk_29_method_66_code (4 : Nat) (Option.some Jvm.ClassFile.FieldType.long), Jvm.Cond.code ({ cls := "com/example/timed_net_processes/timednetprocesses/StepRange", name := "<init>", desc := "(JJI)V" } : Jvm.MethodName) prog_25_method_1_code (6 : Nat) (Option.none : Option Jvm.ClassFile.FieldType), Jvm.Cond.code ({ cls := "java/lang/Object", name := "<init>", desc := "()V" } : Jvm.MethodName) object_method_1_code (1 : Nat) (Option.none : Option Jvm.ClassFile.FieldType), Jvm.Cond.code ({ cls := "com/example/timed_net_processes/timednetprocesses/StepRange", name := "equals", desc := "(Ljava/lang/Object;)Z" } : Jvm.MethodName) prog_25_method_5_code (3 : Nat) (Option.some Jvm.ClassFile.FieldType.boolean), Jvm.Cond.code ({ cls := "java/lang/Integer", name := "valueOf", desc := "(I)Ljava/lang/Integer;" } : Jvm.MethodName) jdk_33_method_22_code (1 : Nat) (Option.some (Jvm.ClassFile.FieldType.object "java/lang/Integer")), Jvm.Cond.code ({ cls := "java/lang/Integer", name := "<init>", desc := "(I)V" } : Jvm.MethodName) jdk_33_method_23_code (2 : Nat) (Option.none : Option Jvm.ClassFile.FieldType), Jvm.Cond.code ({ cls := "java/lang/Number", name := "<init>", desc := "()V" } : Jvm.MethodName) jdk_18_method_1_code (1 : Nat) (Option.none : Option Jvm.ClassFile.FieldType)]
set_option maxRecDepth 65536 in
theorem codes_eq : words1.filter isCode = codes1 := rfl
theorem w_codes : ∀ c ∈ words1.filter isCode, c.before args0 about1 = true := by
  rw [codes_eq]
  intro c hc
  simp only [codes1, List.mem_cons, List.not_mem_nil, or_false] at hc
  rcases hc with rfl | rfl | rfl | rfl | rfl | rfl | rfl | rfl | rfl
  · exact w_c0
  · exact w_c1
  · exact w_c2
  · exact w_c3
  · exact w_c4
  · exact w_c5
  · exact w_c6
  · exact w_c7
  · exact w_c8
set_option maxRecDepth 65536 in
theorem w_t1 : (words1.take 24).all (fun c => isCode c || c.before args0 about1) = true := by decide +kernel
set_option maxRecDepth 65536 in
theorem w_t2 : ((words1.drop 24).take 24).all (fun c => isCode c || c.before args0 about1) = true := by decide +kernel
set_option maxRecDepth 65536 in
theorem w_t3 : ((words1.drop 24).drop 24).all (fun c => isCode c || c.before args0 about1) = true := by decide +kernel
theorem w_tables : (allAtoms (Jvm.Cond.code x code maxLocals ret :: tables_1)).before args0 about1 = true := by
  rw [allAtoms_all]
  show words1.all (fun c => c.before args0 about1) = true
  refine all_split ?_ w_codes
  rw [← List.take_append_drop 24 words1, List.all_append, w_t1, ← List.take_append_drop 24 (words1.drop 24), List.all_append, w_t2, w_t3]
  rfl
set_option maxRecDepth 65536 in
theorem w_rest : rest_1_c.before args0 about1 = true := by decide +kernel
set_option maxRecDepth 65536 in
theorem w_case : (Jvm.Cond.and given_1 narrow_1).before args0 about1 = true := by decide +kernel
theorem w_applies : (headSpec (Jvm.Cond.code x code maxLocals ret :: tables_1) room_1).applies x e0.platform about1 = true :=
  (Spec.applies_iff w_frames).mpr ⟨w_running, w_runnable, w_alone, w_named, w_hears, w_ripe, w_room, w_tables⟩
theorem atStart : AtStart classFile x code maxLocals ret World_1 tables_1 room_1 Calls_1 rest_1 Pre_1 launch0 p0 e0 about1 theMethod args0 below0 :=
  ⟨lists_1, trivial, launch0.admits_env _ _ _, launch0.least_env, fairChoices_fair.cas, fairChoices_fair.clock, w_frames, w_args, w_heap, w_applies, trivial, w_rest, w_case⟩
end start1
theorem witness_1 : WitnessClaimed_1 := ⟨start1.p0, start1.e0, start1.about1, start1.theMethod, start1.args0, start1.below0, start1.atStart⟩
end Jvm.Pilot.@@N@@
