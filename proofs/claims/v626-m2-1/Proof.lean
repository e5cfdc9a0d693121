import JvmDerived
import JvmDerived.Pilot.@@N@@Statement
import JvmDerived.Pilot.@@N@@Code
set_option linter.unusedVariables false
set_option linter.unusedSimpArgs false
namespace Jvm.Pilot.@@N@@
open Jvm Jvm.ClassFile Sem Op Lib Jvm.Free Jvm.Stand Jvm.LawKit Jvm.RoadKit Bundle Jvm.Pilot.@@N@@.Jvm.D
/-- from T with the frame fr on top the invocation ends; Q holds of what it returned, of the heap and of the written places; kc cells and ks slots at most are new -/
def Go (p : Program) (e : Env) (below : List Frame) (s : State) (kc ks : Nat) (Q : Option Value → Heap → List Loc → Prop) (T : State) (fr : JFrame) : Prop :=
  ∃ s₂ o, Steps p.tables e below (T.setTop fr) s₂ ∧ s₂.status = .running ∧ Ended s₂ below o ∧ ∃ v L, o = .returned v ∧ Q v s₂.heap L ∧ FrameEnd s o s₂ L kc ks
section OwnKit
variable {p : Program} {l : Launch} {e : Env} {R : Room} {s : State} {m : MethodId} {args : Array Value} {below : List Frame} {meth : Method} {c : Code} {T T' : State} {locs : List Loc} {cells slots : Nat} {Z : State} {a0 : Array Value} {h : Heap} {kc ks : Nat} {Q : Option Value → Heap → List Loc → Prop}
theorem own_st {fr fr' : JFrame} (st : ∀ t, Steps p.tables e below (T'.setTop fr') t → Steps p.tables e below (T.setTop fr) t) (k : Go p e below s kc ks Q T' fr') : Go p e below s kc ks Q T fr := by
  obtain ⟨s₂, o, h1, h2⟩ := k
  exact ⟨s₂, o, st _ h1, h2⟩
theorem own_tr {fr fr' : JFrame} (st : Steps p.tables e below (T.setTop fr) (T'.setTop fr')) (k : Go p e below s kc ks Q T' fr') : Go p e below s kc ks Q T fr :=
  own_st (fun _ q => st.trans q) k
theorem own_met {y : MethodName} {bytes : ByteArray} {maxL : Nat} {ret : Option FieldType} {ws : List Jvm.Cond} {rm : Room} {as' : Array Value} {Ls : Array Slot} {h0 : Heap} (hn : plainFor y = true) (hef : ∀ m : MethodId, entryFrame m as' maxL = mkF m 0 Ls [])
    (body : ∀ (p : Program) (e : Env) (s : State) (m : MethodId) (below : List Frame) (meth : Method) (c : Code) (s₁ : State), p.tables.exec = Jvm.exec → c.code = bytes → c.maxLocals = maxL → meth.sig.returnType = ret → meth.locks = false → Z.Warmed39 s.vm → s.vm.findClass y.cls = some m.cls → meth.name = y.name →
      Stand p l e rm s m as' below meth c s₁ [] 0 0 → s₁.heap = h0 → s.heap = h0 → Go p e below s rm.cells rm.slots Q s₁ (mkF m 0 Ls [])) :
    MetFree l y (head1 (Jvm.Cond.code y bytes maxL ret :: ws) rm) (fun a U => a = as' ∧ Z.Warmed39 U.vm ∧ U.heap = h0) (fun _ _ _ _ _ => True) (fun _ U o U' => ∃ v L, o = .returned v ∧ Q v U'.heap L ∧ FrameEnd U o U' L rm.cells rm.slots) := by
  refine MetFree.of_bodySF hn hisR ?_
  intro p e s m args below meth c s₁ Bd hml0 hP hK
  obtain ⟨rfl, hZ, hh⟩ := hP
  have hg := body p e s m below meth c s₁ Bd.exec Bd.bytes hml0 Bd.returns Bd.notSynchronized hZ (findClass_of_methodNamed Bd.named) (name_of_methodNamed Bd.named Bd.method).1 (Stand.of_body Bd) (by rw [← hh, Bd.state]; rfl) hh
  unfold Go at hg
  rw [← hef m] at hg
  exact hg
theorem own_ret (X : Stand p l e R s m args below meth c T locs cells slots) (hx : p.tables.exec = Jvm.exec) (hlk : meth.locks = false) {pc : Nat} {Ls : Array Slot} {w : Value} {t : FieldType} {i : Instr} {rest : List Value} (hret : meth.sig.returnType = some t) (hn : narrow t w = w)
    (hi : (i = .ireturn ∧ (t = .int ∨ t = .boolean ∨ t = .byte ∨ t = .char ∨ t = .short) ∧ ∃ z, w = .int z) ∨ (i = .lreturn ∧ t = .long ∧ ∃ z, w = .long z) ∨ (i = .dreturn ∧ t = .double ∧ ∃ z, w = .double z) ∨ (i = .freturn ∧ t = .float ∧ ∃ z, w = .float z) ∨ (i = .areturn ∧ t.isReference = true ∧ w.isRef = true))
    (hd : decode c.code pc = .ok (i, 1)) (hc : cells ≤ kc) (hs : slots ≤ ks) (hq : Q (some w) T.heap locs) : Go p e below s kc ks Q T (mkF m pc Ls (w :: rest)) := by
  obtain ⟨fs, hr, hrun, hended, hW, hsame⟩ := X.leave (v := some w) (fun h => by rw [hret] at h; cases h) hlk
  exact ⟨_, _, retOut X hx hret hn hi hd hr, hrun, hended, _, _, rfl, hq, ⟨_, rfl⟩, hW, hsame.mono hc hs⟩
theorem own_retI (X : Stand p l e R s m args below meth c T locs cells slots) (hx : p.tables.exec = Jvm.exec) (hlk : meth.locks = false) {pc : Nat} {Ls : Array Slot} {z : Int32} {rest : List Value} (hret : meth.sig.returnType = some .int)
    (hd : decode c.code pc = .ok (.ireturn, 1)) (hc : cells ≤ kc) (hs : slots ≤ ks) (hq : Q (some (.int z)) T.heap locs) : Go p e below s kc ks Q T (mkF m pc Ls (.int z :: rest)) :=
  own_ret X hx hlk hret rfl (Or.inl ⟨rfl, Or.inl rfl, _, rfl⟩) hd hc hs hq
theorem own_retJ (X : Stand p l e R s m args below meth c T locs cells slots) (hx : p.tables.exec = Jvm.exec) (hlk : meth.locks = false) {pc : Nat} {Ls : Array Slot} {z : Int64} {rest : List Value} (hret : meth.sig.returnType = some .long)
    (hd : decode c.code pc = .ok (.lreturn, 1)) (hc : cells ≤ kc) (hs : slots ≤ ks) (hq : Q (some (.long z)) T.heap locs) : Go p e below s kc ks Q T (mkF m pc Ls (.long z :: rest)) :=
  own_ret X hx hlk hret rfl (Or.inr (Or.inl ⟨rfl, rfl, _, rfl⟩)) hd hc hs hq
theorem own_retA (X : Stand p l e R s m args below meth c T locs cells slots) (hx : p.tables.exec = Jvm.exec) (hlk : meth.locks = false) {pc : Nat} {Ls : Array Slot} {w : Value} {t : FieldType} {rest : List Value} (hret : meth.sig.returnType = some t) (ht : t.isReference = true) (hw : w.isRef = true)
    (hd : decode c.code pc = .ok (.areturn, 1)) (hc : cells ≤ kc) (hs : slots ≤ ks) (hq : Q (some w) T.heap locs) : Go p e below s kc ks Q T (mkF m pc Ls (w :: rest)) :=
  own_ret X hx hlk hret (by cases w <;> simp [Value.isRef] at hw <;> cases t <;> simp [FieldType.isReference] at ht <;> rfl) (Or.inr (Or.inr (Or.inr (Or.inr ⟨rfl, ht, hw⟩)))) hd hc hs hq
theorem own_retV (X : Stand p l e R s m args below meth c T locs cells slots) (hx : p.tables.exec = Jvm.exec) (hlk : meth.locks = false) {pc : Nat} {Ls : Array Slot} (hret : meth.sig.returnType = none)
    (hd : decode c.code pc = .ok (.return_, 1)) (hc : cells ≤ kc) (hs : slots ≤ ks) (hq : Q none T.heap locs) : Go p e below s kc ks Q T (mkF m pc Ls []) := by
  obtain ⟨fs, hr, hrun, hended, hW, hsame⟩ := X.leave (v := none) (fun _ => rfl) hlk
  exact ⟨_, _, X.returnOut hx hret hd hr, hrun, hended, _, _, rfl, hq, ⟨_, rfl⟩, hW, hsame.mono hc hs⟩
theorem own_bit {z : Int32} (h : z.toInt = 0 ∨ z.toInt = 1) : z = 0 ∨ z = 1 := by
  rcases h with h | h
  · exact Or.inl (Int32.toInt_inj.mp h)
  · exact Or.inr (Int32.toInt_inj.mp h)
theorem own_retZ (X : Stand p l e R s m args below meth c T locs cells slots) (hx : p.tables.exec = Jvm.exec) (hlk : meth.locks = false) {pc : Nat} {Ls : Array Slot} {z : Int32} {rest : List Value} (hret : meth.sig.returnType = some .boolean) (hz : z.toInt = 0 ∨ z.toInt = 1)
    (hd : decode c.code pc = .ok (.ireturn, 1)) (hc : cells ≤ kc) (hs : slots ≤ ks) (hq : Q (some (.int z)) T.heap locs) : Go p e below s kc ks Q T (mkF m pc Ls (.int z :: rest)) :=
  own_ret X hx hlk hret (by rcases own_bit hz with rfl | rfl <;> rfl) (Or.inl ⟨rfl, Or.inr (Or.inl rfl), _, rfl⟩) hd hc hs hq
theorem own_one {z : Int32} (h : z.toInt = 1) : z = 1 := Int32.toInt_inj.mp h
/-- a static call by the callee's contract -/
theorem own_callS (X : Stand p l e R s m args below meth c T locs cells slots) (hx : p.tables.exec = Jvm.exec) (hZ : Z.Warmed39 s.vm) {own : String} {index : Nat} {y : MethodName} {bytes : ByteArray} {maxL : Nat} {ret : Option FieldType} (hown : s.vm.findClass own = some m.cls)
    (w1 : (Jvm.Cond.methodLink own index y).before a0 Z = true) (w2 : (Jvm.Cond.static y).before a0 Z = true) (w3 : (Jvm.Cond.initialized y.cls).before a0 Z = true) (w4 : (Jvm.Cond.code y bytes maxL ret).before a0 Z = true) (hy : y.cls ≠ "java/lang/invoke/MethodHandle" ∧ y.cls ≠ "java/lang/invoke/VarHandle")
    {rm : Room} {Q' : Option Value → Heap → List Loc → Prop} {argsL rest stk : List Value} {pc W : Nat} {Ls : Array Slot}
    (hM : MetFree l y (head1 [Jvm.Cond.code y bytes maxL ret] rm) (fun a U => a = argsL.toArray ∧ Z.Warmed39 U.vm ∧ U.heap = h) (fun _ _ _ _ _ => True) (fun _ U o U' => ∃ v L, o = .returned v ∧ Q' v U'.heap L ∧ FrameEnd U o U' L rm.cells rm.slots))
    (eT : T.heap = h) (hsize : Ls.size = c.maxLocals) (hlen : ∀ sig, parseMethodDescriptor y.desc = some sig → argsL.length = sig.parameters.length) (hst : stk = argsL.reverse ++ rest) (hW : (rest.map fun v => v.category).sum ≤ W) (hd : decode c.code pc = .ok (.invokestatic index, 3))
    (hf : rm.frames + 1 ≤ R.frames) (hl : W + (maxL + 11) + rm.locals ≤ R.locals) (hc : cells + rm.cells ≤ R.cells) (hs : slots + rm.slots ≤ R.slots)
    (k : ∀ (v : Option Value) (T' : State) (L : List Loc), Stand p l e R s m args below meth c T' (locs ++ L) (cells + rm.cells) (slots + rm.slots) → Q' v T'.heap L → Go p e below s kc ks Q T' (mkF m (pc + 3) Ls (v.toList ++ rest))) :
    Go p e below s kc ks Q T (mkF m pc Ls stk) := by
  subst hst
  obtain ⟨v, _, ⟨T1, L1, k1, n1⟩, -, X1, ⟨Lc, hQ, l1, y1, z1⟩, st⟩ := Jvm.LawKit.callS X hx (y := y) hown (mvT hZ w1) (mvT hZ w2) (mvT hZ w3) (mvT hZ w4) hy (backOf (W := W) hM hZ w4 w3 hf hl) (g := mkF m pc Ls (argsL.reverse ++ rest)) rfl hsize (argsL := argsL) (rest := rest) hlen rfl (by show 2 * 0 + _ ≤ _; omega) hd (fun _ _ => ⟨rfl, eT, hc, hs⟩)
  dsimp only [Pt.U, Pt.locs, Pt.cells, Pt.slots] at X1 l1 y1 z1 st hQ
  subst l1 y1 z1
  exact own_st st (k v T1 Lc X1 hQ)
/-- a constructor by its contract -/
theorem own_callN (X : Stand p l e R s m args below meth c T locs cells slots) (hx : p.tables.exec = Jvm.exec) (hZ : Z.Warmed39 s.vm) {own : String} {index : Nat} {y : MethodName} {bytes : ByteArray} {maxL : Nat} (hown : s.vm.findClass own = some m.cls) (hy1 : y.name = "<init>")
    (w1 : (Jvm.Cond.methodLink own index y).before a0 Z = true) (w2 : (Jvm.Cond.instanceMethod y).before a0 Z = true) (w3 : (Jvm.Cond.initialized y.cls).before a0 Z = true) (w4 : (Jvm.Cond.code y bytes maxL none).before a0 Z = true) (hy : y.cls ≠ "java/lang/invoke/MethodHandle" ∧ y.cls ≠ "java/lang/invoke/VarHandle")
    {rm : Room} {Q' : Option Value → Heap → List Loc → Prop} {a : Addr} {argsL rest stk : List Value} {pc W : Nat} {Ls : Array Slot}
    (hM : MetFree l y (head1 [Jvm.Cond.code y bytes maxL none] rm) (fun a' U => a' = (.ref a :: argsL).toArray ∧ Z.Warmed39 U.vm ∧ U.heap = h) (fun _ _ _ _ _ => True) (fun _ U o U' => ∃ v L, o = .returned v ∧ Q' v U'.heap L ∧ FrameEnd U o U' L rm.cells rm.slots))
    (eT : T.heap = h) (hsize : Ls.size = c.maxLocals) (hlen : ∀ sig, parseMethodDescriptor y.desc = some sig → argsL.length = sig.parameters.length) (hst : stk = argsL.reverse ++ .ref a :: rest) (hW : (rest.map fun v => v.category).sum ≤ W) (hd : decode c.code pc = .ok (.invokespecial index, 3))
    (hf : rm.frames + 1 ≤ R.frames) (hl : W + (maxL + 11) + rm.locals ≤ R.locals) (hc : cells + rm.cells ≤ R.cells) (hs : slots + rm.slots ≤ R.slots)
    (k : ∀ (v : Option Value) (T' : State) (L : List Loc), Stand p l e R s m args below meth c T' (locs ++ L) (cells + rm.cells) (slots + rm.slots) → Q' v T'.heap L → Go p e below s kc ks Q T' (mkF m (pc + 3) Ls (v.toList ++ rest))) :
    Go p e below s kc ks Q T (mkF m pc Ls stk) := by
  subst hst
  obtain ⟨v, _, ⟨T1, L1, k1, n1⟩, -, X1, ⟨Lc, hQ, l1, y1, z1⟩, st⟩ := X.specialBack hx (y := y) hy1 hown (mvT hZ w1) (mvT hZ w2) (mvT hZ w4) hy (backOf (W := W) hM hZ w4 w3 hf hl) (g := mkF m pc Ls (argsL.reverse ++ .ref a :: rest)) rfl hsize (Steps.refl _) (a := a) (argsL := argsL) (rest := rest) hlen rfl (by show 2 * 0 + _ ≤ _; omega) hd (fun _ _ => ⟨rfl, eT, hc, hs⟩)
  dsimp only [Pt.U, Pt.locs, Pt.cells, Pt.slots] at X1 l1 y1 z1 st hQ
  subst l1 y1 z1
  exact own_tr st (k v T1 Lc X1 hQ)
/-- an instance method by the contract of the body that the receiver's class selects -/
theorem own_callV (X : Stand p l e R s m args below meth c T locs cells slots) (hx : p.tables.exec = Jvm.exec) (hZ : Z.Warmed39 s.vm) {own C : String} {index : Nat} {y z : MethodName} {bytes : ByteArray} {maxL : Nat} {ret : Option FieldType} (hown : s.vm.findClass own = some m.cls)
    (w1 : (Jvm.Cond.methodLink own index y).before a0 Z = true) (w2 : (Jvm.Cond.declares y).before a0 Z = true) (hnf : NotFace s y) (w3 : (Jvm.Cond.selects C y z).before a0 Z = true) (w4 : (Jvm.Cond.instanceMethod z).before a0 Z = true) (w5 : (Jvm.Cond.initialized z.cls).before a0 Z = true) (w6 : (Jvm.Cond.code z bytes maxL ret).before a0 Z = true) (hy : y.cls ≠ "java/lang/invoke/MethodHandle" ∧ y.cls ≠ "java/lang/invoke/VarHandle")
    {rm : Room} {Q' : Option Value → Heap → List Loc → Prop} {a : Addr} {argsL rest stk : List Value} {pc W : Nat} {Ls : Array Slot}
    (hM : MetFree l z (head1 [Jvm.Cond.code z bytes maxL ret] rm) (fun a' U => a' = (.ref a :: argsL).toArray ∧ Z.Warmed39 U.vm ∧ U.heap = h) (fun _ _ _ _ _ => True) (fun _ U o U' => ∃ v L, o = .returned v ∧ Q' v U'.heap L ∧ FrameEnd U o U' L rm.cells rm.slots))
    (eT : T.heap = h) (E : Exa Z h a C) (hsize : Ls.size = c.maxLocals) (hlen : ∀ sig, parseMethodDescriptor y.desc = some sig → argsL.length = sig.parameters.length) (hst : stk = argsL.reverse ++ .ref a :: rest) (hW : (rest.map fun v => v.category).sum ≤ W) (hd : decode c.code pc = .ok (.invokevirtual index, 3))
    (hf : rm.frames + 1 ≤ R.frames) (hl : W + (maxL + 11) + rm.locals ≤ R.locals) (hc : cells + rm.cells ≤ R.cells) (hs : slots + rm.slots ≤ R.slots)
    (k : ∀ (v : Option Value) (T' : State) (L : List Loc), Stand p l e R s m args below meth c T' (locs ++ L) (cells + rm.cells) (slots + rm.slots) → Q' v T'.heap L → Go p e below s kc ks Q T' (mkF m (pc + 3) Ls (v.toList ++ rest))) :
    Go p e below s kc ks Q T (mkF m pc Ls stk) := by
  subst hst
  obtain ⟨cq, kq, qa, qb, qc⟩ := isOf hZ eT E
  obtain ⟨v, _, ⟨T1, L1, k1, n1⟩, -, X1, ⟨Lc, hQ, l1, y1, z1⟩, st⟩ := X.virtualBack hx (y := y) (z := z) hown (mvT hZ w1) (mvT hZ w2) hnf (mvT hZ w3) (mvT hZ w4) hy (backOf (W := W) hM hZ w6 w5 hf hl) qa qc (g := mkF m pc Ls (argsL.reverse ++ .ref a :: rest)) rfl hsize (Steps.refl _) (argsL := argsL) (rest := rest) hlen rfl (by show 2 * 0 + _ ≤ _; omega) hd (fun _ _ => ⟨rfl, eT, hc, hs⟩)
  dsimp only [Pt.U, Pt.locs, Pt.cells, Pt.slots] at X1 l1 y1 z1 st hQ
  subst l1 y1 z1
  exact own_tr st (k v T1 Lc X1 hQ)
/-- the branches, by the integers' worth -/
theorem own_tlt {x y : Int32} (h : x.toInt < y.toInt) : if_icmp.holds .lt x y = true ∧ if_icmp.holds .ge x y = false ∧ if_icmp.holds .gt y x = true ∧ if_icmp.holds .le y x = false := tlt (Int32.lt_iff_toInt_lt.mpr h)
theorem own_flt {x y : Int32} (h : ¬ x.toInt < y.toInt) : if_icmp.holds .lt x y = false ∧ if_icmp.holds .ge x y = true ∧ if_icmp.holds .gt y x = false ∧ if_icmp.holds .le y x = true := flt fun q => h (Int32.lt_iff_toInt_lt.mp q)
theorem own_teq {x y : Int32} (h : x.toInt = y.toInt) : if_icmp.holds .eq x y = true ∧ if_icmp.holds .ne x y = false := teq (Int32.toInt_inj.mp h)
theorem own_feq {x y : Int32} (h : ¬ x.toInt = y.toInt) : if_icmp.holds .eq x y = false ∧ if_icmp.holds .ne x y = true := feq fun q => h (congrArg _ q)
theorem own_tltL {x y : Int64} (h : x.toInt < y.toInt) : ifCond.holds .lt (lcmpW x y) = true ∧ ifCond.holds .ge (lcmpW x y) = false := by
  have q := tlt ((lw_lt x y).mpr (Int64.lt_iff_toInt_lt.mpr h))
  exact ⟨(if0 _ _).trans q.1, (if0 _ _).trans q.2.1⟩
theorem own_fltL {x y : Int64} (h : ¬ x.toInt < y.toInt) : ifCond.holds .lt (lcmpW x y) = false ∧ ifCond.holds .ge (lcmpW x y) = true := by
  have q := flt fun r => h (Int64.lt_iff_toInt_lt.mp ((lw_lt x y).mp r))
  exact ⟨(if0 _ _).trans q.1, (if0 _ _).trans q.2.1⟩
theorem own_tgtL {x y : Int64} (h : y.toInt < x.toInt) : ifCond.holds .gt (lcmpW x y) = true ∧ ifCond.holds .le (lcmpW x y) = false := by
  have q := tlt ((lw_gt x y).mpr (Int64.lt_iff_toInt_lt.mpr h))
  exact ⟨(if0 _ _).trans q.2.2.1, (if0 _ _).trans q.2.2.2⟩
theorem own_fgtL {x y : Int64} (h : ¬ y.toInt < x.toInt) : ifCond.holds .gt (lcmpW x y) = false ∧ ifCond.holds .le (lcmpW x y) = true := by
  have q := flt fun r => h (Int64.lt_iff_toInt_lt.mp ((lw_gt x y).mp r))
  exact ⟨(if0 _ _).trans q.2.2.1, (if0 _ _).trans q.2.2.2⟩
theorem own_teqL {x y : Int64} (h : x.toInt = y.toInt) : ifCond.holds .eq (lcmpW x y) = true ∧ ifCond.holds .ne (lcmpW x y) = false := by
  have q := teq ((lw_eq x y).mpr (Int64.toInt_inj.mp h))
  exact ⟨(if0 _ _).trans q.1, (if0 _ _).trans q.2⟩
theorem own_feqL {x y : Int64} (h : ¬ x.toInt = y.toInt) : ifCond.holds .eq (lcmpW x y) = false ∧ ifCond.holds .ne (lcmpW x y) = true := by
  have q := feq fun r => h (congrArg _ ((lw_eq x y).mp r))
  exact ⟨(if0 _ _).trans q.1, (if0 _ _).trans q.2⟩
/-- an array by its length and what each place holds -/
def own_A (Z : State) (h : Heap) (a : Addr) (ty : FieldType) (n : Int32) (f : Nat → Value) : Prop := ∃ cl : Cell, Arr Z h a cl ty ∧ cl.slots.size = n.toNatClampNeg ∧ 0 ≤ n.toInt ∧ (∀ i, i < cl.slots.size → cl.slots[i]? = some (f i)) ∧ ∀ i, i < cl.slots.size → fits ty (f i) = true
theorem own_cl {n : Int32} : n.toNatClampNeg = n.toInt.toNat := rfl
theorem own_nneg {n : Int32} (h : 0 ≤ n.toInt) : ¬ n < 0 := fun q => by
  have q := Int32.lt_iff_toInt_lt.mp q
  have : (0 : Int32).toInt = 0 := rfl
  omega
theorem own_in {cl : Cell} {n j : Int32} (hs : cl.slots.size = n.toNatClampNeg) (h0 : 0 ≤ j.toInt) (h1 : j.toInt < n.toInt) : ¬ (j < 0 ∨ cl.slots.size ≤ j.toNatClampNeg) := by
  rintro (q | q)
  · exact own_nneg h0 q
  · rw [hs, own_cl, own_cl] at q; omega
theorem own_ilt {cl : Cell} {n j : Int32} (hs : cl.slots.size = n.toNatClampNeg) (h0 : 0 ≤ j.toInt) (h1 : j.toInt < n.toInt) : j.toInt.toNat < cl.slots.size := by rw [hs, own_cl]; omega
section OwnArr
variable {h h' : Heap} {a b : Addr} {ty : FieldType} {n : Int32} {f g : Nat → Value} {sl : Nat} {v : Value} {ws : List Addr}
theorem own_A.lt (F : own_A Z h a ty n f) : a < h.size := by obtain ⟨c, A, -⟩ := F; exact A.lt
theorem own_A.ext (F : own_A Z h a ty n f) (E : Ext h h') : own_A Z h' a ty n f := by obtain ⟨c, A, r⟩ := F; exact ⟨c, A.ext E, r⟩
theorem own_A.other (F : own_A Z h b ty n f) (W : Wr h h' a sl v) (q : b ≠ a) : own_A Z h' b ty n f := by obtain ⟨c, A, r⟩ := F; exact ⟨c, A.other W q, r⟩
theorem own_A.keep (F : own_A Z h a ty n f) (K : Keep h h' ws) (q : a ∉ ws) : own_A Z h' a ty n f := by obtain ⟨c, A, r⟩ := F; exact ⟨c, ⟨K.2.1 a c A.1 q, A.2⟩, r⟩
theorem own_A.congr (F : own_A Z h a ty n f) (q : ∀ i : Nat, (i : Int) < n.toInt → f i = g i) : own_A Z h a ty n g := by
  obtain ⟨c, A, hs, h0, H, G⟩ := F
  have t : ∀ i, i < c.slots.size → f i = g i := fun i hi => q i (by rw [hs, own_cl] at hi; omega)
  exact ⟨c, A, hs, h0, fun i hi => by rw [← t i hi]; exact H i hi, fun i hi => by rw [← t i hi]; exact G i hi⟩
theorem own_A.new {k : ClassId} (A : Arr Z h a (newA k ty n) ty) (q : 0 ≤ n.toInt) (hd : fits ty (defaultValue ty) = true) : own_A Z h a ty n (fun _ => defaultValue ty) :=
  ⟨_, A, sz_new _ _ _, q, fun i hi => by
    rw [sz_new] at hi
    simp [newA, hi], fun _ _ => hd⟩
theorem own_A.setN {cl : Cell} (A : Arr Z h a cl ty) (hs : cl.slots.size = n.toNatClampNeg) (h0 : 0 ≤ n.toInt) (H : ∀ i, i < cl.slots.size → cl.slots[i]? = some (f i)) (G : ∀ i, i < cl.slots.size → fits ty (f i) = true) (hv : fits ty v = true) {j : Nat} (W : Wr h h' a j v) (hj : j < cl.slots.size) :
    own_A Z h' a ty n (fun i => if i = j then v else f i) := by
  refine ⟨_, A.same W, by rw [sz_set]; exact hs, h0, fun i hi => ?_, fun i hi => ?_⟩
  · rw [sz_set] at hi
    by_cases e : i = j
    · subst e; simp [Cell.setSlot, hj]
    · have : j ≠ i := fun q => e q.symm
      simp [Cell.setSlot, e, this, H i hi]
  · rw [sz_set] at hi
    by_cases e : i = j
    · simp [e, hv]
    · simp [e, G i hi]
theorem own_A.set {cl : Cell} (A : Arr Z h a cl ty) (hs : cl.slots.size = n.toNatClampNeg) (h0 : 0 ≤ n.toInt) (H : ∀ i, i < cl.slots.size → cl.slots[i]? = some (f i)) (G : ∀ i, i < cl.slots.size → fits ty (f i) = true) (hv : fits ty v = true) {j : Int32} (W : Wr h h' a j.toNatClampNeg v) (hj : j.toInt.toNat < cl.slots.size) :
    own_A Z h' a ty n (fun i => if i = j.toInt.toNat then v else f i) := own_A.setN A hs h0 H G hv (j := j.toInt.toNat) W hj
end OwnArr
theorem own_A.int {h : Heap} {a : Addr} {n j : Int32} {f : Nat → Value} (F : own_A Z h a .int n f) (h0 : 0 ≤ j.toInt) (h1 : j.toInt < n.toInt) : ∃ z : Int32, f j.toInt.toNat = .int z := by
  obtain ⟨c, A, hs, hn, H, G⟩ := F
  exact fit_I (G _ (own_ilt hs h0 h1)) (Or.inl rfl)
theorem own_newarr (X : Stand p l e R s m args below meth c T locs cells slots) (hx : p.tables.exec = Jvm.exec) (hZ : Z.Warmed39 s.vm) {aty : ArrayType} (w : (Jvm.Cond.arrayClass (newarray.typeOf aty)).before a0 Z = true) (eT : T.heap = h) {pc : Nat} {Ls : Array Slot} (hd : decode c.code pc = .ok (.newarray aty, 2)) {n : Int32} {rest : List Value}
    (hn : 0 ≤ n.toInt) {cap : Nat} (hcap : n.toInt ≤ cap) (hb : cap * 8 ≤ 536870912) (hc : cells + 1 ≤ R.cells) (hl : slots + cap ≤ R.slots) (hf : fits (newarray.typeOf aty) (defaultValue (newarray.typeOf aty)) = true)
    (k : ∀ (T' : State) (h' : Heap) (a : Addr), a = h.size → Stand p l e R s m args below meth c T' locs (cells + 1) (slots + cap) → T'.heap = h' → Ext h h' → own_A Z h' a (newarray.typeOf aty) n (fun _ => defaultValue (newarray.typeOf aty)) → Go p e below s kc ks Q T' (mkF m (pc + 2) Ls (.ref a :: rest))) :
    Go p e below s kc ks Q T (mkF m pc Ls (.int n :: rest)) := by
  obtain ⟨T', h', cA, X', e', E', A', st⟩ := newP X hx hZ w eT (g := mkF m pc Ls (.int n :: rest)) rfl hd rfl (own_nneg hn) (cap := cap) (by rw [own_cl]; omega) hb hc hl
  exact own_st st (k T' h' _ rfl X' e' E' (own_A.new A' hn hf))
theorem own_alen (X : Stand p l e R s m args below meth c T locs cells slots) (hx : p.tables.exec = Jvm.exec) (hZ : Z.Warmed39 s.vm) (eT : T.heap = h) {a : Addr} {ty : FieldType} {n : Int32} {f : Nat → Value} (A : own_A Z h a ty n f) {pc : Nat} {Ls : Array Slot} {rest : List Value} (hd : decode c.code pc = .ok (.arraylength, 1))
    (k : Go p e below s kc ks Q T (mkF m (pc + 1) Ls (.int n :: rest))) : Go p e below s kc ks Q T (mkF m pc Ls (.ref a :: rest)) := by
  obtain ⟨cl, Ar, hs, h0, -, -⟩ := A
  rw [← len_of hs (own_nneg h0)] at k
  exact own_st (fun t q => X.arraylength hx (by rw [eT]; exact Ar.1) (State.isArrayOf_alike hZ.alike Ar.2.1) (g := mkF m pc Ls (.ref a :: rest)) rfl rfl hd t q) k
theorem own_iaload (X : Stand p l e R s m args below meth c T locs cells slots) (hx : p.tables.exec = Jvm.exec) (hZ : Z.Warmed39 s.vm) (eT : T.heap = h) {a : Addr} {n j : Int32} {f : Nat → Value} {v : Value} (A : own_A Z h a .int n f) (h0 : 0 ≤ j.toInt) (h1 : j.toInt < n.toInt) (hv : f j.toInt.toNat = v) {pc : Nat} {Ls : Array Slot} {rest : List Value} (hd : decode c.code pc = .ok (.iaload, 1))
    (k : Go p e below s kc ks Q T (mkF m (pc + 1) Ls (v :: rest))) : Go p e below s kc ks Q T (mkF m pc Ls (.int j :: .ref a :: rest)) := by
  obtain ⟨cl, Ar, hs, hn, H, -⟩ := A
  exact own_st (fun t q => X.iaload hx (j := j) (v := v) (by rw [eT]; exact Ar.1) (State.isArrayOf_alike hZ.alike Ar.2.1) Ar.2.2 (own_in hs h0 h1) (hv ▸ H _ (own_ilt hs h0 h1)) (g := mkF m pc Ls (.int j :: .ref a :: rest)) rfl rfl hd t q) k
theorem own_laload (X : Stand p l e R s m args below meth c T locs cells slots) (hx : p.tables.exec = Jvm.exec) (hZ : Z.Warmed39 s.vm) (eT : T.heap = h) {a : Addr} {n j : Int32} {f : Nat → Value} {v : Value} (A : own_A Z h a .long n f) (h0 : 0 ≤ j.toInt) (h1 : j.toInt < n.toInt) (hv : f j.toInt.toNat = v) {pc : Nat} {Ls : Array Slot} {rest : List Value} (hd : decode c.code pc = .ok (.laload, 1))
    (k : Go p e below s kc ks Q T (mkF m (pc + 1) Ls (v :: rest))) : Go p e below s kc ks Q T (mkF m pc Ls (.int j :: .ref a :: rest)) := by
  obtain ⟨cl, Ar, hs, hn, H, -⟩ := A
  exact own_st (fun t q => X.laload hx (j := j) (v := v) (by rw [eT]; exact Ar.1) (State.isArrayOf_alike hZ.alike Ar.2.1) Ar.2.2 (own_in hs h0 h1) (hv ▸ H _ (own_ilt hs h0 h1)) (g := mkF m pc Ls (.int j :: .ref a :: rest)) rfl rfl hd t q) k
theorem own_caload (X : Stand p l e R s m args below meth c T locs cells slots) (hx : p.tables.exec = Jvm.exec) (hZ : Z.Warmed39 s.vm) (eT : T.heap = h) {a : Addr} {n j : Int32} {f : Nat → Value} {v : Value} (A : own_A Z h a .char n f) (h0 : 0 ≤ j.toInt) (h1 : j.toInt < n.toInt) (hv : f j.toInt.toNat = v) {pc : Nat} {Ls : Array Slot} {rest : List Value} (hd : decode c.code pc = .ok (.caload, 1))
    (k : Go p e below s kc ks Q T (mkF m (pc + 1) Ls (v :: rest))) : Go p e below s kc ks Q T (mkF m pc Ls (.int j :: .ref a :: rest)) := by
  obtain ⟨cl, Ar, hs, hn, H, -⟩ := A
  exact own_st (fun t q => X.caload hx (j := j) (v := v) (by rw [eT]; exact Ar.1) (State.isArrayOf_alike hZ.alike Ar.2.1) Ar.2.2 (own_in hs h0 h1) (hv ▸ H _ (own_ilt hs h0 h1)) (g := mkF m pc Ls (.int j :: .ref a :: rest)) rfl rfl hd t q) k
theorem own_baload (X : Stand p l e R s m args below meth c T locs cells slots) (hx : p.tables.exec = Jvm.exec) (hZ : Z.Warmed39 s.vm) (eT : T.heap = h) {a : Addr} {n j : Int32} {f : Nat → Value} {v : Value} (A : own_A Z h a .byte n f) (h0 : 0 ≤ j.toInt) (h1 : j.toInt < n.toInt) (hv : f j.toInt.toNat = v) {pc : Nat} {Ls : Array Slot} {rest : List Value} (hd : decode c.code pc = .ok (.baload, 1))
    (k : Go p e below s kc ks Q T (mkF m (pc + 1) Ls (v :: rest))) : Go p e below s kc ks Q T (mkF m pc Ls (.int j :: .ref a :: rest)) := by
  obtain ⟨cl, Ar, hs, hn, H, -⟩ := A
  exact own_st (fun t q => X.baloadBytes hx (j := j) (v := v) (by rw [eT]; exact Ar.1) (State.isArrayOf_alike hZ.alike Ar.2.1) Ar.2.2 (own_in hs h0 h1) (hv ▸ H _ (own_ilt hs h0 h1)) (g := mkF m pc Ls (.int j :: .ref a :: rest)) rfl rfl hd t q) k
theorem own_zaload (X : Stand p l e R s m args below meth c T locs cells slots) (hx : p.tables.exec = Jvm.exec) (hZ : Z.Warmed39 s.vm) (eT : T.heap = h) {a : Addr} {n j : Int32} {f : Nat → Value} {v : Value} (A : own_A Z h a .boolean n f) (h0 : 0 ≤ j.toInt) (h1 : j.toInt < n.toInt) (hv : f j.toInt.toNat = v) {pc : Nat} {Ls : Array Slot} {rest : List Value} (hd : decode c.code pc = .ok (.baload, 1))
    (k : Go p e below s kc ks Q T (mkF m (pc + 1) Ls (v :: rest))) : Go p e below s kc ks Q T (mkF m pc Ls (.int j :: .ref a :: rest)) := by
  obtain ⟨cl, Ar, hs, hn, H, -⟩ := A
  exact own_st (fun t q => X.baloadBooleans hx (j := j) (v := v) (by rw [eT]; exact Ar.1) (State.isArrayOf_alike hZ.alike Ar.2.1) Ar.2.2 (own_in hs h0 h1) (hv ▸ H _ (own_ilt hs h0 h1)) (g := mkF m pc Ls (.int j :: .ref a :: rest)) rfl rfl hd t q) k
theorem own_aaload (X : Stand p l e R s m args below meth c T locs cells slots) (hx : p.tables.exec = Jvm.exec) (hZ : Z.Warmed39 s.vm) (eT : T.heap = h) {a : Addr} {ty : FieldType} {n j : Int32} {f : Nat → Value} {v : Value} (A : own_A Z h a ty n f) (hty : ty.isReference = true) (h0 : 0 ≤ j.toInt) (h1 : j.toInt < n.toInt) (hv : f j.toInt.toNat = v) {pc : Nat} {Ls : Array Slot} {rest : List Value} (hd : decode c.code pc = .ok (.aaload, 1))
    (k : Go p e below s kc ks Q T (mkF m (pc + 1) Ls (v :: rest))) : Go p e below s kc ks Q T (mkF m pc Ls (.int j :: .ref a :: rest)) := by
  obtain ⟨cl, Ar, hs, hn, H, -⟩ := A
  exact own_st (fun t q => X.aaload hx (j := j) (v := v) (by rw [eT]; exact Ar.1) (State.isArrayOf_alike hZ.alike Ar.2.1) hty Ar.2.2 (own_in hs h0 h1) (hv ▸ H _ (own_ilt hs h0 h1)) (g := mkF m pc Ls (.int j :: .ref a :: rest)) rfl rfl hd t q) k
theorem own_iastore (X : Stand p l e R s m args below meth c T locs cells slots) (hx : p.tables.exec = Jvm.exec) (hZ : Z.Warmed39 s.vm) (eT : T.heap = h) {a : Addr} {n j : Int32} {f : Nat → Value} {x : Int32} (A : own_A Z h a .int n f) (h0 : 0 ≤ j.toInt) (h1 : j.toInt < n.toInt) {pc : Nat} {Ls : Array Slot} {rest : List Value} (hd : decode c.code pc = .ok (.iastore, 1))
    (k : ∀ (T' : State) (h' : Heap), Stand p l e R s m args below meth c T' (locs ++ [⟨a, j.toNatClampNeg⟩]) cells slots → T'.heap = h' → Wr h h' a j.toNatClampNeg (.int x) → own_A Z h' a .int n (fun i => if i = j.toInt.toNat then (.int x) else f i) → Go p e below s kc ks Q T' (mkF m (pc + 1) Ls rest)) : Go p e below s kc ks Q T (mkF m pc Ls (.int x :: .int j :: .ref a :: rest)) := by
  obtain ⟨cl, Ar, hs, hn, H, G⟩ := A
  obtain ⟨T', h', X', e', W', st⟩ := stI X hx hZ eT Ar (j := j) (x := x) (own_in hs h0 h1) (g := mkF m pc Ls (.int x :: .int j :: .ref a :: rest)) rfl rfl hd
  exact own_st st (k T' h' X' e' W' (own_A.set Ar hs hn H G rfl W' (own_ilt hs h0 h1)))
theorem own_lastore (X : Stand p l e R s m args below meth c T locs cells slots) (hx : p.tables.exec = Jvm.exec) (hZ : Z.Warmed39 s.vm) (eT : T.heap = h) {a : Addr} {n j : Int32} {f : Nat → Value} {x : Int64} (A : own_A Z h a .long n f) (h0 : 0 ≤ j.toInt) (h1 : j.toInt < n.toInt) {pc : Nat} {Ls : Array Slot} {rest : List Value} (hd : decode c.code pc = .ok (.lastore, 1))
    (k : ∀ (T' : State) (h' : Heap), Stand p l e R s m args below meth c T' (locs ++ [⟨a, j.toNatClampNeg⟩]) cells slots → T'.heap = h' → Wr h h' a j.toNatClampNeg (.long x) → own_A Z h' a .long n (fun i => if i = j.toInt.toNat then (.long x) else f i) → Go p e below s kc ks Q T' (mkF m (pc + 1) Ls rest)) : Go p e below s kc ks Q T (mkF m pc Ls (.long x :: .int j :: .ref a :: rest)) := by
  obtain ⟨cl, Ar, hs, hn, H, G⟩ := A
  obtain ⟨T', h', X', e', W', st⟩ := stJ X hx hZ eT Ar (j := j) (x := x) (own_in hs h0 h1) (g := mkF m pc Ls (.long x :: .int j :: .ref a :: rest)) rfl rfl hd
  exact own_st st (k T' h' X' e' W' (own_A.set Ar hs hn H G rfl W' (own_ilt hs h0 h1)))
theorem own_bastore (X : Stand p l e R s m args below meth c T locs cells slots) (hx : p.tables.exec = Jvm.exec) (hZ : Z.Warmed39 s.vm) (eT : T.heap = h) {a : Addr} {n j : Int32} {f : Nat → Value} {x : Int32} (A : own_A Z h a .byte n f) (h0 : 0 ≤ j.toInt) (h1 : j.toInt < n.toInt) {pc : Nat} {Ls : Array Slot} {rest : List Value} (hd : decode c.code pc = .ok (.bastore, 1))
    (k : ∀ (T' : State) (h' : Heap), Stand p l e R s m args below meth c T' (locs ++ [⟨a, j.toNatClampNeg⟩]) cells slots → T'.heap = h' → Wr h h' a j.toNatClampNeg (.int (nar .byte x)) → own_A Z h' a .byte n (fun i => if i = j.toInt.toNat then (.int (nar .byte x)) else f i) → Go p e below s kc ks Q T' (mkF m (pc + 1) Ls rest)) : Go p e below s kc ks Q T (mkF m pc Ls (.int x :: .int j :: .ref a :: rest)) := by
  obtain ⟨cl, Ar, hs, hn, H, G⟩ := A
  obtain ⟨T', h', X', e', W', st⟩ := stB X hx hZ eT Ar (j := j) (x := x) (own_in hs h0 h1) (g := mkF m pc Ls (.int x :: .int j :: .ref a :: rest)) rfl rfl hd
  exact own_st st (k T' h' X' e' W' (own_A.set Ar hs hn H G (fits_nar_byte x) W' (own_ilt hs h0 h1)))
theorem own_castore (X : Stand p l e R s m args below meth c T locs cells slots) (hx : p.tables.exec = Jvm.exec) (hZ : Z.Warmed39 s.vm) (eT : T.heap = h) {a : Addr} {n j : Int32} {f : Nat → Value} {x : Int32} (A : own_A Z h a .char n f) (h0 : 0 ≤ j.toInt) (h1 : j.toInt < n.toInt) {pc : Nat} {Ls : Array Slot} {rest : List Value} (hd : decode c.code pc = .ok (.castore, 1))
    (k : ∀ (T' : State) (h' : Heap), Stand p l e R s m args below meth c T' (locs ++ [⟨a, j.toNatClampNeg⟩]) cells slots → T'.heap = h' → Wr h h' a j.toNatClampNeg (.int (nar .char x)) → own_A Z h' a .char n (fun i => if i = j.toInt.toNat then (.int (nar .char x)) else f i) → Go p e below s kc ks Q T' (mkF m (pc + 1) Ls rest)) : Go p e below s kc ks Q T (mkF m pc Ls (.int x :: .int j :: .ref a :: rest)) := by
  obtain ⟨cl, Ar, hs, hn, H, G⟩ := A
  obtain ⟨T', h', X', e', W', st⟩ := stC X hx hZ eT Ar (j := j) (x := x) (own_in hs h0 h1) (g := mkF m pc Ls (.int x :: .int j :: .ref a :: rest)) rfl rfl hd
  exact own_st st (k T' h' X' e' W' (own_A.set Ar hs hn H G (fits_nar_char x) W' (own_ilt hs h0 h1)))
theorem own_zastore (X : Stand p l e R s m args below meth c T locs cells slots) (hx : p.tables.exec = Jvm.exec) (hZ : Z.Warmed39 s.vm) (eT : T.heap = h) {a : Addr} {n j : Int32} {f : Nat → Value} {x : Int32} (A : own_A Z h a .boolean n f) (h0 : 0 ≤ j.toInt) (h1 : j.toInt < n.toInt) {pc : Nat} {Ls : Array Slot} {rest : List Value} (hd : decode c.code pc = .ok (.bastore, 1))
    (k : ∀ (T' : State) (h' : Heap), Stand p l e R s m args below meth c T' (locs ++ [⟨a, j.toNatClampNeg⟩]) cells slots → T'.heap = h' → Wr h h' a j.toNatClampNeg (.int (nar .boolean x)) → own_A Z h' a .boolean n (fun i => if i = j.toInt.toNat then (.int (nar .boolean x)) else f i) → Go p e below s kc ks Q T' (mkF m (pc + 1) Ls rest)) : Go p e below s kc ks Q T (mkF m pc Ls (.int x :: .int j :: .ref a :: rest)) := by
  obtain ⟨cl, Ar, hs, hn, H, G⟩ := A
  obtain ⟨T', h', X', e', W', st⟩ := stZ X hx hZ eT Ar (j := j) (x := x) (own_in hs h0 h1) (g := mkF m pc Ls (.int x :: .int j :: .ref a :: rest)) rfl rfl hd
  exact own_st st (k T' h' X' e' W' (own_A.set Ar hs hn H G (fits_nar_bool x) W' (own_ilt hs h0 h1)))
theorem own_eqv {args : Array Value} {s : State} {t : Term} {k : Int32} (h : (Jvm.Cond.eq t (.int k)).value args s none s [] = some true) : t.eval args s none [] s = some (.int k) := by
  simp only [Cond.value, Term.eval] at h
  cases e : t.eval args s none [] s with
  | none => simp [e] at h
  | some v => cases v <;> simp [e] at h; exact congrArg _ (congrArg _ h)
theorem own_fldeq {args : Array Value} {s : State} {t : Term} {x : Addr} {C n d : String} {k : Int32} (ht : t.eval args s none [] s = some (.ref x)) (h : (Jvm.Cond.eq (.field t C n d) (.int k)).value args s none s [] = some true) : Fld s s.heap x C n d (.int k) :=
  Fld.start ((fld_at ht).symm.trans (own_eqv h))
/-- the array at a is one of C's -/
def own_O (Z : State) (h : Heap) (a : Addr) (C : String) : Prop := ∃ cl : Cell, h[a]? = some cl ∧ Ovr Z cl.cls C
theorem own_O.ext {h h' : Heap} {a : Addr} {C : String} (F : own_O Z h a C) (E : Ext h h') : own_O Z h' a C := by obtain ⟨c, A, r⟩ := F; exact ⟨c, E.2 _ _ A, r⟩
theorem own_O.wr {h h' : Heap} {a b : Addr} {C : String} {sl : Nat} {v : Value} (F : own_O Z h a C) (W : Wr h h' b sl v) : own_O Z h' a C := by
  obtain ⟨c, A, r⟩ := F
  obtain ⟨c', e1, e2, -⟩ := wr_at W A
  exact ⟨c', e1, by rw [e2]; exact r⟩
theorem own_newarrR (X : Stand p l e R s m args below meth c T locs cells slots) (hx : p.tables.exec = Jvm.exec) (hZ : Z.Warmed39 s.vm) {own C : String} {index : Nat} (hown : s.vm.findClass own = some m.cls) (w1 : (Jvm.Cond.classLink own index C).before a0 Z = true) (w2 : (Jvm.Cond.arrayOver (.object C)).before a0 Z = true) (eT : T.heap = h) {pc : Nat} {Ls : Array Slot} (hd : decode c.code pc = .ok (.anewarray index, 3)) {n : Int32} {rest : List Value}
    (hn : 0 ≤ n.toInt) {cap : Nat} (hcap : n.toInt ≤ cap) (hb : cap * 8 ≤ 536870912) (hc : cells + 1 ≤ R.cells) (hl : slots + cap ≤ R.slots)
    (k : ∀ (T' : State) (h' : Heap) (a : Addr), a = h.size → Stand p l e R s m args below meth c T' locs (cells + 1) (slots + cap) → T'.heap = h' → Ext h h' → own_A Z h' a (.object C) n (fun _ => .null) → own_O Z h' a C → Go p e below s kc ks Q T' (mkF m (pc + 3) Ls (.ref a :: rest))) :
    Go p e below s kc ks Q T (mkF m pc Ls (.int n :: rest)) := by
  obtain ⟨T', h', cA, X', e', E', A', O', st⟩ := newR X hx hZ hown w1 w2 eT (g := mkF m pc Ls (.int n :: rest)) rfl hd rfl (own_nneg hn) (cap := cap) (by rw [own_cl]; omega) hb hc hl
  exact own_st st (k T' h' _ rfl X' e' E' (own_A.new A' hn rfl) ⟨_, A'.1, O'⟩)
theorem own_aastore (X : Stand p l e R s m args below meth c T locs cells slots) (hx : p.tables.exec = Jvm.exec) (hZ : Z.Warmed39 s.vm) (eT : T.heap = h) {a y : Addr} {n j : Int32} {f : Nat → Value} {C : String} (A : own_A Z h a (.object C) n f) (O : own_O Z h a C) (I : Ins Z h y C true) (h0 : 0 ≤ j.toInt) (h1 : j.toInt < n.toInt) {pc : Nat} {Ls : Array Slot} {rest : List Value} (hd : decode c.code pc = .ok (.aastore, 1))
    (k : ∀ (T' : State) (h' : Heap), Stand p l e R s m args below meth c T' (locs ++ [⟨a, j.toNatClampNeg⟩]) cells slots → T'.heap = h' → Wr h h' a j.toNatClampNeg (.ref y) → own_A Z h' a (.object C) n (fun i => if i = j.toInt.toNat then .ref y else f i) → Go p e below s kc ks Q T' (mkF m (pc + 1) Ls rest)) : Go p e below s kc ks Q T (mkF m pc Ls (.ref y :: .int j :: .ref a :: rest)) := by
  obtain ⟨cl, Ar, hs, hn, H, G⟩ := A
  obtain ⟨cl', o1, o2⟩ := O
  cases Ar.1.symm.trans o1
  obtain ⟨T', h', X', e', W', st⟩ := stR X hx hZ eT Ar (j := j) (v := .ref y) (own_in hs h0 h1) rfl (Sto.of Ar o2 I) (g := mkF m pc Ls (.ref y :: .int j :: .ref a :: rest)) rfl rfl hd
  exact own_st st (k T' h' X' e' W' (own_A.set Ar hs hn H G rfl W' (own_ilt hs h0 h1)))
theorem own_sk0 {h h' : Heap} {C n d : String} {v : Value} (F : Sta Z h C n d v) (K : Keep h h' []) : Sta Z h' C n d v := by
  obtain ⟨cf, i, k, f, st, cell, h1, h2, h3, h4, h5, r⟩ := F
  exact ⟨cf, i, k, f, st, cell, h1, h2, h3, h4, K.2.1 _ _ h5 nin0, r⟩
theorem own_sk1 {h h' : Heap} {a : Addr} {C n d D : String} {v : Value} (F : Sta Z h C n d v) (K : Keep h h' [a]) (E : Exa Z h a D) : Sta Z h' C n d v := by
  obtain ⟨cf, i, k, f, st, cell, h1, h2, h3, h4, h5, h6, h7⟩ := F
  obtain ⟨c2, k2, e1, e2, e3, e4, e5⟩ := E
  have ne : st ≠ a := fun q => by
    subst q
    cases h5.symm.trans e1
    rw [e4] at h6; cases h6
  exact ⟨cf, i, k, f, st, cell, h1, h2, h3, h4, K.2.1 _ _ h5 (ninS ne nin0), h6, h7⟩
/-- each of the first n places holds an object of class D -/
def own_IC (Z : State) (h : Heap) (D : String) (n : Nat) (f : Nat → Value) : Prop := ∀ i, i < n → ∃ b : Addr, f i = .ref b ∧ Exa Z h b D
theorem own_IC.ext {h h' : Heap} {D : String} {n : Nat} {f : Nat → Value} (F : own_IC Z h D n f) (E : Ext h h') : own_IC Z h' D n f := fun i hi => by obtain ⟨b, e1, e2⟩ := F i hi; exact ⟨b, e1, e2.ext E⟩
theorem own_IC.wr {h h' : Heap} {D : String} {n : Nat} {f : Nat → Value} {a : Addr} {sl : Nat} {v : Value} (F : own_IC Z h D n f) (W : Wr h h' a sl v) : own_IC Z h' D n f := fun i hi => by obtain ⟨b, e1, e2⟩ := F i hi; exact ⟨b, e1, Exa.wr W e2⟩
theorem own_IC.keep {h h' : Heap} {D : String} {n : Nat} {f : Nat → Value} {ws : List Addr} (F : own_IC Z h D n f) (K : Keep h h' ws) : own_IC Z h' D n f := fun i hi => by obtain ⟨b, e1, e2⟩ := F i hi; exact ⟨b, e1, e2.keep K⟩
/-- an object of class D is no K -/
theorem own_notIns {h : Heap} {b : Addr} {D K : String} {t : List String} {kk : Nat} (E : Exa Z h b D) (hw : ∀ w ∈ Cond.chainWords (D :: t), w.before a0 Z = true) (wi : (Jvm.Cond.instantiable K kk).before a0 Z = true) (hn : K ∉ D :: t) : Ins Z h b K false := by
  obtain ⟨cell, k, e1, e2, e3, e4, e5⟩ := E
  obtain ⟨cK, kK, i1, i2, i3, i4⟩ := Cond.instantiable_spec wi
  refine ⟨cell, cK, e1, i1, ?_⟩
  rw [Vm.notAssignable_of_chain e2 i1 i2 i3 (by simpa using (Bool.or_eq_false_iff.mp i4.1).1) hw hn]
  simp
theorem own_cache {s : State} {args : Array Value} {t : Term} {a : Addr} {K : String} {B : Jvm.Cond} (et : ∀ idx, t.eval args s none idx s = some (.ref a)) (hA : (Jvm.Cond.arrayOf t (.object K)).value args s none s [] = some true) (hL : (Jvm.Cond.eq (.length t) (.int 256)).value args s none s [] = some true)
    (h : (Jvm.Cond.all t (.and (.exactly (.elem t (.index 0)) K) B)).value args s none s [] = some true) : ∃ fc, own_A s s.heap a (.object K) 256 fc ∧ own_IC s s.heap K 256 fc := by
  obtain ⟨cl, A⟩ := Arr.start (et []) hA
  have ha := A.fin (Vm.Alike.refl _)
  have hl := own_eqv hL
  have hsz : cl.slots.size = 256 := by
    by_cases q : cl.slots.size < 2 ^ 31
    · rw [len_f (et []) ha q] at hl
      have e := congrArg Int32.toInt (Value.int.inj (Option.some.inj hl))
      rw [len_toInt q] at e
      have k : (256 : Int32).toInt = 256 := rfl
      omega
    · simp [Term.eval, et [], ha, q] at hl
  have hel : ∀ i, i < cl.slots.size → ∃ b : Addr, cl.slots[i]? = some (.ref b) ∧ Exa s s.heap b K := fun i hi => by
    have hj : ¬ i.toInt32 < 0 := fun z => (idx_in hi (by omega)) (Or.inl z)
    have hc : i.toInt32.toNatClampNeg = i := by
      rw [own_cl, len_toInt (by omega)]; rfl
    obtain ⟨u1, u2⟩ := and_e (Cond.all_elim (et []) ha h i hi)
    obtain ⟨b, eb⟩ := exa_v u1
    refine ⟨b, ?_, exa_at eb u1⟩
    have q := (elem_f (idx := [i]) (a := .index 0) (j := i.toInt32) (et _) (by have := idx_at (args := args) (s := s) (first := s) (o := none) hj; rwa [hc] at this) ha hj).symm.trans eb
    rwa [hc] at q
  refine ⟨fun i => (cl.slots[i]?).getD .null, ⟨cl, A, by rw [hsz]; rfl, by decide, fun i hi => ?_, fun i hi => ?_⟩, fun i hi => ?_⟩
  · obtain ⟨b, e, -⟩ := hel i hi; simp [e]
  · obtain ⟨b, e, -⟩ := hel i hi; simp [e, fits]
  · obtain ⟨b, e, E⟩ := hel i (by omega); exact ⟨b, by simp [e], E⟩
end OwnKit
theorem own_fold (c : Int32) (h0 : 0 ≤ c.toInt) : (c ||| 32).toInt = if c.toInt / 32 % 2 = 1 then c.toInt else c.toInt + 32 := by
  have e1 : c.toInt = (c.toBitVec.toNat : Int) := by
    have := c.toBitVec.isLt
    have q : c.toInt = c.toBitVec.toInt := rfl
    rw [q, BitVec.toInt_eq_toNat_cond] at h0 ⊢
    split at h0 <;> simp_all <;> omega
  have hlt : c.toBitVec.toNat < 2 ^ 31 := by have := c.toInt_lt; omega
  have e2 : (c ||| 32).toBitVec.toNat = c.toBitVec.toNat ||| 32 := by
    rw [Int32.toBitVec_or, BitVec.toNat_or]; rfl
  generalize c.toBitVec.toNat = n at *
  have e3 : n ||| 32 = if n / 32 % 2 = 1 then n else n + 32 := by
    have d : n = 2 ^ 6 * (n / 64) + n % 64 := by omega
    have hb : n % 64 < 2 ^ 6 := by omega
    have o : n = 2 ^ 6 * (n / 64) ||| n % 64 := by rw [← Nat.two_pow_add_eq_or_of_lt hb]; exact d
    have hb2 : n % 64 ||| 32 < 2 ^ 6 := Nat.or_lt_two_pow hb (by decide)
    have o2 : n ||| 32 = 2 ^ 6 * (n / 64) + (n % 64 ||| 32) := by
      rw [Nat.two_pow_add_eq_or_of_lt hb2, ← Nat.or_assoc, ← o]
    have small : ∀ b : Fin 64, b.val ||| 32 = if b.val / 32 % 2 = 1 then b.val else b.val + 32 := by decide
    have s := small ⟨n % 64, hb⟩
    simp only at s
    rw [o2, s]
    split <;> split <;> omega
  have hle : n ||| 32 < 2 ^ 31 := Nat.or_lt_two_pow hlt (by decide)
  have e4 : (c ||| 32).toInt = ((n ||| 32 : Nat) : Int) := by
    have q : (c ||| 32).toInt = (c ||| 32).toBitVec.toInt := rfl
    rw [q, BitVec.toInt_eq_toNat_cond, e2]
    split <;> omega
  rw [e4, e3, e1]
  split <;> split <;> omega
theorem d1_0 : decode prog_29_method_5_code 0 = .ok (.iload_n 0, 1) := by decide +kernel
theorem d1_1 : decode prog_29_method_5_code 1 = .ok (.bipush 97, 2) := by decide +kernel
theorem d1_3 : decode prog_29_method_5_code 3 = .ok (.if_icmp .lt 9, 3) := by decide +kernel
theorem d1_6 : decode prog_29_method_5_code 6 = .ok (.iload_n 0, 1) := by decide +kernel
theorem d1_7 : decode prog_29_method_5_code 7 = .ok (.bipush 122, 2) := by decide +kernel
theorem d1_9 : decode prog_29_method_5_code 9 = .ok (.if_icmp .le 39, 3) := by decide +kernel
theorem d1_12 : decode prog_29_method_5_code 12 = .ok (.iload_n 0, 1) := by decide +kernel
theorem d1_13 : decode prog_29_method_5_code 13 = .ok (.bipush 65, 2) := by decide +kernel
theorem d1_15 : decode prog_29_method_5_code 15 = .ok (.if_icmp .lt 9, 3) := by decide +kernel
theorem d1_18 : decode prog_29_method_5_code 18 = .ok (.iload_n 0, 1) := by decide +kernel
theorem d1_19 : decode prog_29_method_5_code 19 = .ok (.bipush 90, 2) := by decide +kernel
theorem d1_21 : decode prog_29_method_5_code 21 = .ok (.if_icmp .le 27, 3) := by decide +kernel
theorem d1_24 : decode prog_29_method_5_code 24 = .ok (.iload_n 0, 1) := by decide +kernel
theorem d1_25 : decode prog_29_method_5_code 25 = .ok (.bipush 48, 2) := by decide +kernel
theorem d1_27 : decode prog_29_method_5_code 27 = .ok (.if_icmp .lt 9, 3) := by decide +kernel
theorem d1_30 : decode prog_29_method_5_code 30 = .ok (.iload_n 0, 1) := by decide +kernel
theorem d1_31 : decode prog_29_method_5_code 31 = .ok (.bipush 57, 2) := by decide +kernel
theorem d1_33 : decode prog_29_method_5_code 33 = .ok (.if_icmp .le 15, 3) := by decide +kernel
theorem d1_36 : decode prog_29_method_5_code 36 = .ok (.iload_n 0, 1) := by decide +kernel
theorem d1_37 : decode prog_29_method_5_code 37 = .ok (.bipush 95, 2) := by decide +kernel
theorem d1_39 : decode prog_29_method_5_code 39 = .ok (.if_icmp .eq 9, 3) := by decide +kernel
theorem d1_42 : decode prog_29_method_5_code 42 = .ok (.iload_n 0, 1) := by decide +kernel
theorem d1_43 : decode prog_29_method_5_code 43 = .ok (.bipush 39, 2) := by decide +kernel
theorem d1_45 : decode prog_29_method_5_code 45 = .ok (.if_icmp .ne 7, 3) := by decide +kernel
theorem d1_48 : decode prog_29_method_5_code 48 = .ok (.iconst 1, 1) := by decide +kernel
theorem d1_49 : decode prog_29_method_5_code 49 = .ok (.goto 4, 3) := by decide +kernel
theorem d1_52 : decode prog_29_method_5_code 52 = .ok (.iconst 0, 1) := by decide +kernel
theorem d1_53 : decode prog_29_method_5_code 53 = .ok (.ireturn, 1) := by decide +kernel
theorem pn_0 : plainName "com/example/timed_net_processes/timednetprocesses/TinaReader" = true := by first | (simp [plainName, overriddenIn]; done) | decide +kernel
theorem ef_isname (m : MethodId) (c : Int32) : entryFrame m #[(.int c)] 1 = mkF m 0 #[.val (.int c)] [] := by first | (simp [entryFrame, mkF, argsToLocals, Value.category, maxLocals]; done) | rfl
def Q_isname (Z : State) (c : Int32) (h0 : Heap) (n0 : Nat) : Option Value → Heap → List Loc → Prop := fun v h L => (∃ z : Int32, v = some (.int z) ∧ ((((97 ≤ c.toInt ∧ c.toInt ≤ 122) ∨ (65 ≤ c.toInt ∧ c.toInt ≤ 90) ∨ (48 ≤ c.toInt ∧ c.toInt ≤ 57) ∨ c.toInt = 95 ∨ c.toInt = 39) ∧ z.toInt = 1) ∨ (¬ ((97 ≤ c.toInt ∧ c.toInt ≤ 122) ∨ (65 ≤ c.toInt ∧ c.toInt ≤ 90) ∨ (48 ≤ c.toInt ∧ c.toInt ≤ 57) ∨ c.toInt = 95 ∨ c.toInt = 39) ∧ z.toInt = 0))) ∧ Fr n0 L ∧ h = h0
set_option maxRecDepth 65536 in
set_option maxHeartbeats 40000000 in
theorem rm_isname (l : Launch) (Z : State) (a0 : Array Value) (hw : ∀ d ∈ tables_1, d.before a0 Z = true) (ws : List Jvm.Cond) (c : Int32) (h0 : Heap) (n0 : Nat) (Z0 : n0 ≤ h0.size)  :
    MetFree l (⟨"com/example/timed_net_processes/timednetprocesses/TinaReader", "isNameCharacter", "(C)Z"⟩ : MethodName) (head1 (Jvm.Cond.code (⟨"com/example/timed_net_processes/timednetprocesses/TinaReader", "isNameCharacter", "(C)Z"⟩ : MethodName) prog_29_method_5_code 1 (some .boolean) :: ws) ({ frames := 0, cells := 0, slots := 0, locals := 0 } : Room)) (fun a U => a = #[(.int c)] ∧ Z.Warmed39 U.vm ∧ U.heap = h0) (fun _ _ _ _ _ => True) (fun _ U o U' => ∃ v L, o = .returned v ∧ (Q_isname Z c h0 n0) v U'.heap L ∧ FrameEnd U o U' L ({ frames := 0, cells := 0, slots := 0, locals := 0 } : Room).cells ({ frames := 0, cells := 0, slots := 0, locals := 0 } : Room).slots) := by
  refine own_met (Q := (Q_isname Z c h0 n0)) (plainFor_of_name (x := (⟨"com/example/timed_net_processes/timednetprocesses/TinaReader", "isNameCharacter", "(C)Z"⟩ : MethodName)) pn_0) (fun m => ef_isname m c) ?_
  intro p e s m below meth cD s₁ hx hby hml hret hlk hZ hown hnm X0 e0 hs0
  have hown : s.vm.findClass "com/example/timed_net_processes/timednetprocesses/TinaReader" = some m.cls := hown
  have N0 := Fr.nil n0
  refine own_st (fr' := (mkF m 1 #[.val (.int c)] [(.int c)])) (fun t k => XS.iloadN X0.here hx rfl (hb hby d1_0) rfl  k) ?_
  refine own_st (fr' := (mkF m 3 #[.val (.int c)] [(.int (97 : Int32)), (.int c)])) (fun t k => XS.bipush X0.here hx rfl (hb hby d1_1) k) ?_
  suffices J1 : ((c.toInt < 97) ∨ (¬ c.toInt < 97 ∧ 122 < c.toInt)) → Go p e below s ({ frames := 0, cells := 0, slots := 0, locals := 0 } : Room).cells ({ frames := 0, cells := 0, slots := 0, locals := 0 } : Room).slots (Q_isname Z c h0 n0) s₁ (mkF m 12 #[.val (.int c)] []) by
    by_cases hc2 : c.toInt < 97
    · refine own_st (fr' := (mkF m 12 #[.val (.int c)] [])) (fun t k => XS.icmpYes X0.here hx rfl (pc0 := 3) (pc' := 12) rfl (hb hby d1_3) rfl (own_tlt (x := c) (y := (97 : Int32)) hc2).1 (by decide) (by decide) k) ?_
      exact J1   (Or.inl hc2)
    · refine own_st (fr' := (mkF m 6 #[.val (.int c)] [])) (fun t k => XS.icmpNo X0.here hx rfl (hb hby d1_3) rfl (own_flt (x := c) (y := (97 : Int32)) hc2).1 k) ?_
      refine own_st (fr' := (mkF m 7 #[.val (.int c)] [(.int c)])) (fun t k => XS.iloadN X0.here hx rfl (hb hby d1_6) rfl  k) ?_
      refine own_st (fr' := (mkF m 9 #[.val (.int c)] [(.int (122 : Int32)), (.int c)])) (fun t k => XS.bipush X0.here hx rfl (hb hby d1_7) k) ?_
      by_cases hc3 : 122 < c.toInt
      · refine own_st (fr' := (mkF m 12 #[.val (.int c)] [])) (fun t k => XS.icmpNo X0.here hx rfl (hb hby d1_9) rfl (own_tlt (x := (122 : Int32)) (y := c) hc3).2.2.2 k) ?_
        exact J1   (Or.inr ⟨hc2, hc3⟩)
      · refine own_st (fr' := (mkF m 48 #[.val (.int c)] [])) (fun t k => XS.icmpYes X0.here hx rfl (pc0 := 9) (pc' := 48) rfl (hb hby d1_9) rfl (own_flt (x := (122 : Int32)) (y := c) hc3).2.2.2 (by decide) (by decide) k) ?_
        refine own_st (fr' := (mkF m 49 #[.val (.int c)] [(.int (1 : Int32))])) (fun t k => XS.iconst X0.here hx rfl (hb hby d1_48) k) ?_
        refine own_st (fr' := (mkF m 53 #[.val (.int c)] [(.int (1 : Int32))])) (fun t k => XS.goto X0.here hx rfl (pc0 := 49) (pc' := 53) rfl (hb hby d1_49) (by decide) (by decide) k) ?_
        exact own_retZ X0 hx hlk hret (Or.inr rfl) (hb hby d1_53) (by decide) (by decide) (⟨⟨_, rfl, Or.inl ⟨by omega, rfl⟩⟩, N0, e0⟩)
  intro hz4
  refine own_st (fr' := (mkF m 13 #[.val (.int c)] [(.int c)])) (fun t k => XS.iloadN X0.here hx rfl (hb hby d1_12) rfl  k) ?_
  refine own_st (fr' := (mkF m 15 #[.val (.int c)] [(.int (65 : Int32)), (.int c)])) (fun t k => XS.bipush X0.here hx rfl (hb hby d1_13) k) ?_
  suffices J5 : ((c.toInt < 65) ∨ (¬ c.toInt < 65 ∧ 90 < c.toInt)) → Go p e below s ({ frames := 0, cells := 0, slots := 0, locals := 0 } : Room).cells ({ frames := 0, cells := 0, slots := 0, locals := 0 } : Room).slots (Q_isname Z c h0 n0) s₁ (mkF m 24 #[.val (.int c)] []) by
    by_cases hc6 : c.toInt < 65
    · refine own_st (fr' := (mkF m 24 #[.val (.int c)] [])) (fun t k => XS.icmpYes X0.here hx rfl (pc0 := 15) (pc' := 24) rfl (hb hby d1_15) rfl (own_tlt (x := c) (y := (65 : Int32)) hc6).1 (by decide) (by decide) k) ?_
      exact J5   (Or.inl hc6)
    · refine own_st (fr' := (mkF m 18 #[.val (.int c)] [])) (fun t k => XS.icmpNo X0.here hx rfl (hb hby d1_15) rfl (own_flt (x := c) (y := (65 : Int32)) hc6).1 k) ?_
      refine own_st (fr' := (mkF m 19 #[.val (.int c)] [(.int c)])) (fun t k => XS.iloadN X0.here hx rfl (hb hby d1_18) rfl  k) ?_
      refine own_st (fr' := (mkF m 21 #[.val (.int c)] [(.int (90 : Int32)), (.int c)])) (fun t k => XS.bipush X0.here hx rfl (hb hby d1_19) k) ?_
      by_cases hc7 : 90 < c.toInt
      · refine own_st (fr' := (mkF m 24 #[.val (.int c)] [])) (fun t k => XS.icmpNo X0.here hx rfl (hb hby d1_21) rfl (own_tlt (x := (90 : Int32)) (y := c) hc7).2.2.2 k) ?_
        exact J5   (Or.inr ⟨hc6, hc7⟩)
      · refine own_st (fr' := (mkF m 48 #[.val (.int c)] [])) (fun t k => XS.icmpYes X0.here hx rfl (pc0 := 21) (pc' := 48) rfl (hb hby d1_21) rfl (own_flt (x := (90 : Int32)) (y := c) hc7).2.2.2 (by decide) (by decide) k) ?_
        refine own_st (fr' := (mkF m 49 #[.val (.int c)] [(.int (1 : Int32))])) (fun t k => XS.iconst X0.here hx rfl (hb hby d1_48) k) ?_
        refine own_st (fr' := (mkF m 53 #[.val (.int c)] [(.int (1 : Int32))])) (fun t k => XS.goto X0.here hx rfl (pc0 := 49) (pc' := 53) rfl (hb hby d1_49) (by decide) (by decide) k) ?_
        exact own_retZ X0 hx hlk hret (Or.inr rfl) (hb hby d1_53) (by decide) (by decide) (⟨⟨_, rfl, Or.inl ⟨by omega, rfl⟩⟩, N0, e0⟩)
  intro hz8
  refine own_st (fr' := (mkF m 25 #[.val (.int c)] [(.int c)])) (fun t k => XS.iloadN X0.here hx rfl (hb hby d1_24) rfl  k) ?_
  refine own_st (fr' := (mkF m 27 #[.val (.int c)] [(.int (48 : Int32)), (.int c)])) (fun t k => XS.bipush X0.here hx rfl (hb hby d1_25) k) ?_
  suffices J9 : ((c.toInt < 48) ∨ (¬ c.toInt < 48 ∧ 57 < c.toInt)) → Go p e below s ({ frames := 0, cells := 0, slots := 0, locals := 0 } : Room).cells ({ frames := 0, cells := 0, slots := 0, locals := 0 } : Room).slots (Q_isname Z c h0 n0) s₁ (mkF m 36 #[.val (.int c)] []) by
    by_cases hc10 : c.toInt < 48
    · refine own_st (fr' := (mkF m 36 #[.val (.int c)] [])) (fun t k => XS.icmpYes X0.here hx rfl (pc0 := 27) (pc' := 36) rfl (hb hby d1_27) rfl (own_tlt (x := c) (y := (48 : Int32)) hc10).1 (by decide) (by decide) k) ?_
      exact J9   (Or.inl hc10)
    · refine own_st (fr' := (mkF m 30 #[.val (.int c)] [])) (fun t k => XS.icmpNo X0.here hx rfl (hb hby d1_27) rfl (own_flt (x := c) (y := (48 : Int32)) hc10).1 k) ?_
      refine own_st (fr' := (mkF m 31 #[.val (.int c)] [(.int c)])) (fun t k => XS.iloadN X0.here hx rfl (hb hby d1_30) rfl  k) ?_
      refine own_st (fr' := (mkF m 33 #[.val (.int c)] [(.int (57 : Int32)), (.int c)])) (fun t k => XS.bipush X0.here hx rfl (hb hby d1_31) k) ?_
      by_cases hc11 : 57 < c.toInt
      · refine own_st (fr' := (mkF m 36 #[.val (.int c)] [])) (fun t k => XS.icmpNo X0.here hx rfl (hb hby d1_33) rfl (own_tlt (x := (57 : Int32)) (y := c) hc11).2.2.2 k) ?_
        exact J9   (Or.inr ⟨hc10, hc11⟩)
      · refine own_st (fr' := (mkF m 48 #[.val (.int c)] [])) (fun t k => XS.icmpYes X0.here hx rfl (pc0 := 33) (pc' := 48) rfl (hb hby d1_33) rfl (own_flt (x := (57 : Int32)) (y := c) hc11).2.2.2 (by decide) (by decide) k) ?_
        refine own_st (fr' := (mkF m 49 #[.val (.int c)] [(.int (1 : Int32))])) (fun t k => XS.iconst X0.here hx rfl (hb hby d1_48) k) ?_
        refine own_st (fr' := (mkF m 53 #[.val (.int c)] [(.int (1 : Int32))])) (fun t k => XS.goto X0.here hx rfl (pc0 := 49) (pc' := 53) rfl (hb hby d1_49) (by decide) (by decide) k) ?_
        exact own_retZ X0 hx hlk hret (Or.inr rfl) (hb hby d1_53) (by decide) (by decide) (⟨⟨_, rfl, Or.inl ⟨by omega, rfl⟩⟩, N0, e0⟩)
  intro hz12
  refine own_st (fr' := (mkF m 37 #[.val (.int c)] [(.int c)])) (fun t k => XS.iloadN X0.here hx rfl (hb hby d1_36) rfl  k) ?_
  refine own_st (fr' := (mkF m 39 #[.val (.int c)] [(.int (95 : Int32)), (.int c)])) (fun t k => XS.bipush X0.here hx rfl (hb hby d1_37) k) ?_
  by_cases hc13 : c.toInt = 95
  · refine own_st (fr' := (mkF m 48 #[.val (.int c)] [])) (fun t k => XS.icmpYes X0.here hx rfl (pc0 := 39) (pc' := 48) rfl (hb hby d1_39) rfl (own_teq (x := c) (y := (95 : Int32)) hc13).1 (by decide) (by decide) k) ?_
    refine own_st (fr' := (mkF m 49 #[.val (.int c)] [(.int (1 : Int32))])) (fun t k => XS.iconst X0.here hx rfl (hb hby d1_48) k) ?_
    refine own_st (fr' := (mkF m 53 #[.val (.int c)] [(.int (1 : Int32))])) (fun t k => XS.goto X0.here hx rfl (pc0 := 49) (pc' := 53) rfl (hb hby d1_49) (by decide) (by decide) k) ?_
    exact own_retZ X0 hx hlk hret (Or.inr rfl) (hb hby d1_53) (by decide) (by decide) (⟨⟨_, rfl, Or.inl ⟨by omega, rfl⟩⟩, N0, e0⟩)
  · refine own_st (fr' := (mkF m 42 #[.val (.int c)] [])) (fun t k => XS.icmpNo X0.here hx rfl (hb hby d1_39) rfl (own_feq (x := c) (y := (95 : Int32)) hc13).1 k) ?_
    refine own_st (fr' := (mkF m 43 #[.val (.int c)] [(.int c)])) (fun t k => XS.iloadN X0.here hx rfl (hb hby d1_42) rfl  k) ?_
    refine own_st (fr' := (mkF m 45 #[.val (.int c)] [(.int (39 : Int32)), (.int c)])) (fun t k => XS.bipush X0.here hx rfl (hb hby d1_43) k) ?_
    by_cases hc14 : c.toInt = 39
    · refine own_st (fr' := (mkF m 48 #[.val (.int c)] [])) (fun t k => XS.icmpNo X0.here hx rfl (hb hby d1_45) rfl (own_teq (x := c) (y := (39 : Int32)) hc14).2 k) ?_
      refine own_st (fr' := (mkF m 49 #[.val (.int c)] [(.int (1 : Int32))])) (fun t k => XS.iconst X0.here hx rfl (hb hby d1_48) k) ?_
      refine own_st (fr' := (mkF m 53 #[.val (.int c)] [(.int (1 : Int32))])) (fun t k => XS.goto X0.here hx rfl (pc0 := 49) (pc' := 53) rfl (hb hby d1_49) (by decide) (by decide) k) ?_
      exact own_retZ X0 hx hlk hret (Or.inr rfl) (hb hby d1_53) (by decide) (by decide) (⟨⟨_, rfl, Or.inl ⟨by omega, rfl⟩⟩, N0, e0⟩)
    · refine own_st (fr' := (mkF m 52 #[.val (.int c)] [])) (fun t k => XS.icmpYes X0.here hx rfl (pc0 := 45) (pc' := 52) rfl (hb hby d1_45) rfl (own_feq (x := c) (y := (39 : Int32)) hc14).2 (by decide) (by decide) k) ?_
      refine own_st (fr' := (mkF m 53 #[.val (.int c)] [(.int (0 : Int32))])) (fun t k => XS.iconst X0.here hx rfl (hb hby d1_52) k) ?_
      exact own_retZ X0 hx hlk hret (Or.inl rfl) (hb hby d1_53) (by decide) (by decide) (⟨⟨_, rfl, Or.inr ⟨by omega, rfl⟩⟩, N0, e0⟩)
theorem pd_0 : parseMethodDescriptor "(C)Z" = some ⟨[.char], some .boolean⟩ := by decide +kernel
theorem pn_1 : plainName "com/example/timed_net_processes/timednetprocesses/TinaReaderIsNameCharacterPinLaw" = true := by first | (simp [plainName, overriddenIn]; done) | decide +kernel
theorem ef_law (m : MethodId) (p0 : Int32) : entryFrame m #[(.int p0)] maxLocals = mkF m 0 #[.val (.int p0), .unset, .unset, .unset, .unset, .unset] [] := by first | (simp [entryFrame, mkF, argsToLocals, Value.category, maxLocals]; done) | rfl
def Q_law (Z : State) (p0 : Int32) (h0 : Heap) (n0 : Nat) : Option Value → Heap → List Loc → Prop := fun v h L => v = some (.int 1) ∧ Fr n0 L
set_option maxRecDepth 65536 in
set_option maxHeartbeats 40000000 in
theorem rm_law (l : Launch) (Z : State) (a0 : Array Value) (hw : ∀ d ∈ tables_1, d.before a0 Z = true) (ws : List Jvm.Cond) (p0 : Int32) (h0 : Heap) (n0 : Nat) (Z0 : n0 ≤ h0.size)  :
    MetFree l x (head1 (Jvm.Cond.code x code maxLocals ret :: ws) room_1) (fun a U => a = #[(.int p0)] ∧ Z.Warmed39 U.vm ∧ U.heap = h0) (fun _ _ _ _ _ => True) (fun _ U o U' => ∃ v L, o = .returned v ∧ (Q_law Z p0 h0 n0) v U'.heap L ∧ FrameEnd U o U' L room_1.cells room_1.slots) := by
  refine own_met (Q := (Q_law Z p0 h0 n0)) (plainFor_of_name (x := x) pn_1) (fun m => ef_law m p0) ?_
  intro p e s m below meth cD s₁ hx hby hml hret hlk hZ hown hnm X0 e0 hs0
  have hml : cD.maxLocals = 6 := hml
  have hown : s.vm.findClass "com/example/timed_net_processes/timednetprocesses/TinaReaderIsNameCharacterPinLaw" = some m.cls := hown
  have N0 := Fr.nil n0
  refine own_st (fr' := (mkF m 1 #[.val (.int p0), .unset, .unset, .unset, .unset, .unset] [(.int p0)])) (fun t k => XS.iloadN X0.here hx rfl (hb hby at_0) rfl  k) ?_
  refine own_st (fr' := (mkF m 2 #[.val (.int p0), .unset, .unset, .unset, .unset, .unset] [(.int (p0.toUInt32.toUInt16.toUInt32.toInt32))])) (fun t k => XS.i2c X0.here hx rfl (hb hby at_1) rfl k) ?_
  refine own_st (fr' := (mkF m 3 #[.val (.int p0), .val (.int (p0.toUInt32.toUInt16.toUInt32.toInt32)), .unset, .unset, .unset, .unset] [])) (fun t k => XS.istoreN X0.here hx rfl (hb hby at_2) rfl  (l' := #[.val (.int p0), .val (.int (p0.toUInt32.toUInt16.toUInt32.toInt32)), .unset, .unset, .unset, .unset]) rfl k) ?_
  have q1 := c_i2c p0
  generalize p0.toUInt32.toUInt16.toUInt32.toInt32 = c1 at q1 ⊢
  refine own_st (fr' := (mkF m 4 #[.val (.int p0), .val (.int c1), .unset, .unset, .unset, .unset] [(.int c1)])) (fun t k => XS.iloadN X0.here hx rfl (hb hby at_3) rfl  k) ?_
  refine own_st (fr' := (mkF m 6 #[.val (.int p0), .val (.int c1), .unset, .unset, .unset, .unset] [(.int (32 : Int32)), (.int c1)])) (fun t k => XS.bipush X0.here hx rfl (hb hby at_4) k) ?_
  refine own_st (fr' := (mkF m 7 #[.val (.int p0), .val (.int c1), .unset, .unset, .unset, .unset] [(.int (c1 ||| (32 : Int32)))])) (fun t k => XS.ior X0.here hx rfl (hb hby at_6) rfl k) ?_
  refine own_st (fr' := (mkF m 8 #[.val (.int p0), .val (.int c1), .val (.int (c1 ||| (32 : Int32))), .unset, .unset, .unset] [])) (fun t k => XS.istoreN X0.here hx rfl (hb hby at_7) rfl  (l' := #[.val (.int p0), .val (.int c1), .val (.int (c1 ||| (32 : Int32))), .unset, .unset, .unset]) rfl k) ?_
  have q2 := own_fold c1 q1.2.1
  generalize (c1 ||| (32 : Int32)) = c2 at q2 ⊢
  refine own_st (fr' := (mkF m 9 #[.val (.int p0), .val (.int c1), .val (.int c2), .unset, .unset, .unset] [(.int c2)])) (fun t k => XS.iloadN X0.here hx rfl (hb hby at_8) rfl  k) ?_
  refine own_st (fr' := (mkF m 11 #[.val (.int p0), .val (.int c1), .val (.int c2), .unset, .unset, .unset] [(.int (97 : Int32)), (.int c2)])) (fun t k => XS.bipush X0.here hx rfl (hb hby at_9) k) ?_
  suffices J15 : ∀ (z18_0 : Int32), ((c2.toInt < 97 ∧ z18_0.toInt = 0) ∨ (¬ c2.toInt < 97 ∧ 122 < c2.toInt ∧ z18_0.toInt = 0) ∨ (¬ c2.toInt < 97 ∧ ¬ 122 < c2.toInt ∧ z18_0.toInt = 1)) → Go p e below s room_1.cells room_1.slots (Q_law Z p0 h0 n0) s₁ (mkF m 25 #[.val (.int p0), .val (.int c1), .val (.int c2), .unset, .unset, .unset] [(.int z18_0)]) by
    by_cases hc16 : c2.toInt < 97
    · refine own_st (fr' := (mkF m 24 #[.val (.int p0), .val (.int c1), .val (.int c2), .unset, .unset, .unset] [])) (fun t k => XS.icmpYes X0.here hx rfl (pc0 := 11) (pc' := 24) rfl (hb hby at_11) rfl (own_tlt (x := c2) (y := (97 : Int32)) hc16).1 (by decide) (by decide) k) ?_
      refine own_st (fr' := (mkF m 25 #[.val (.int p0), .val (.int c1), .val (.int c2), .unset, .unset, .unset] [(.int (0 : Int32))])) (fun t k => XS.iconst X0.here hx rfl (hb hby at_24) k) ?_
      exact J15  (0 : Int32) (Or.inl ⟨hc16, rfl⟩)
    · refine own_st (fr' := (mkF m 14 #[.val (.int p0), .val (.int c1), .val (.int c2), .unset, .unset, .unset] [])) (fun t k => XS.icmpNo X0.here hx rfl (hb hby at_11) rfl (own_flt (x := c2) (y := (97 : Int32)) hc16).1 k) ?_
      refine own_st (fr' := (mkF m 15 #[.val (.int p0), .val (.int c1), .val (.int c2), .unset, .unset, .unset] [(.int c2)])) (fun t k => XS.iloadN X0.here hx rfl (hb hby at_14) rfl  k) ?_
      refine own_st (fr' := (mkF m 17 #[.val (.int p0), .val (.int c1), .val (.int c2), .unset, .unset, .unset] [(.int (122 : Int32)), (.int c2)])) (fun t k => XS.bipush X0.here hx rfl (hb hby at_15) k) ?_
      by_cases hc17 : 122 < c2.toInt
      · refine own_st (fr' := (mkF m 24 #[.val (.int p0), .val (.int c1), .val (.int c2), .unset, .unset, .unset] [])) (fun t k => XS.icmpYes X0.here hx rfl (pc0 := 17) (pc' := 24) rfl (hb hby at_17) rfl (own_tlt (x := (122 : Int32)) (y := c2) hc17).2.2.1 (by decide) (by decide) k) ?_
        refine own_st (fr' := (mkF m 25 #[.val (.int p0), .val (.int c1), .val (.int c2), .unset, .unset, .unset] [(.int (0 : Int32))])) (fun t k => XS.iconst X0.here hx rfl (hb hby at_24) k) ?_
        exact J15  (0 : Int32) (Or.inr (Or.inl ⟨hc16, hc17, rfl⟩))
      · refine own_st (fr' := (mkF m 20 #[.val (.int p0), .val (.int c1), .val (.int c2), .unset, .unset, .unset] [])) (fun t k => XS.icmpNo X0.here hx rfl (hb hby at_17) rfl (own_flt (x := (122 : Int32)) (y := c2) hc17).2.2.1 k) ?_
        refine own_st (fr' := (mkF m 21 #[.val (.int p0), .val (.int c1), .val (.int c2), .unset, .unset, .unset] [(.int (1 : Int32))])) (fun t k => XS.iconst X0.here hx rfl (hb hby at_20) k) ?_
        refine own_st (fr' := (mkF m 25 #[.val (.int p0), .val (.int c1), .val (.int c2), .unset, .unset, .unset] [(.int (1 : Int32))])) (fun t k => XS.goto X0.here hx rfl (pc0 := 21) (pc' := 25) rfl (hb hby at_21) (by decide) (by decide) k) ?_
        exact J15  (1 : Int32) (Or.inr (Or.inr ⟨hc16, hc17, rfl⟩))
  intro z18_0 hz18
  refine own_st (fr' := (mkF m 26 #[.val (.int p0), .val (.int c1), .val (.int c2), .val (.int z18_0), .unset, .unset] [])) (fun t k => XS.istoreN X0.here hx rfl (hb hby at_25) rfl  (l' := #[.val (.int p0), .val (.int c1), .val (.int c2), .val (.int z18_0), .unset, .unset]) rfl k) ?_
  refine own_st (fr' := (mkF m 27 #[.val (.int p0), .val (.int c1), .val (.int c2), .val (.int z18_0), .unset, .unset] [(.int c1)])) (fun t k => XS.iloadN X0.here hx rfl (hb hby at_26) rfl  k) ?_
  refine own_st (fr' := (mkF m 29 #[.val (.int p0), .val (.int c1), .val (.int c2), .val (.int z18_0), .unset, .unset] [(.int (48 : Int32)), (.int c1)])) (fun t k => XS.bipush X0.here hx rfl (hb hby at_27) k) ?_
  suffices J19 : ∀ (z22_0 : Int32), ((c1.toInt < 48 ∧ z22_0.toInt = 0) ∨ (¬ c1.toInt < 48 ∧ 57 < c1.toInt ∧ z22_0.toInt = 0) ∨ (¬ c1.toInt < 48 ∧ ¬ 57 < c1.toInt ∧ z22_0.toInt = 1)) → Go p e below s room_1.cells room_1.slots (Q_law Z p0 h0 n0) s₁ (mkF m 43 #[.val (.int p0), .val (.int c1), .val (.int c2), .val (.int z18_0), .unset, .unset] [(.int z22_0)]) by
    by_cases hc20 : c1.toInt < 48
    · refine own_st (fr' := (mkF m 42 #[.val (.int p0), .val (.int c1), .val (.int c2), .val (.int z18_0), .unset, .unset] [])) (fun t k => XS.icmpYes X0.here hx rfl (pc0 := 29) (pc' := 42) rfl (hb hby at_29) rfl (own_tlt (x := c1) (y := (48 : Int32)) hc20).1 (by decide) (by decide) k) ?_
      refine own_st (fr' := (mkF m 43 #[.val (.int p0), .val (.int c1), .val (.int c2), .val (.int z18_0), .unset, .unset] [(.int (0 : Int32))])) (fun t k => XS.iconst X0.here hx rfl (hb hby at_42) k) ?_
      exact J19  (0 : Int32) (Or.inl ⟨hc20, rfl⟩)
    · refine own_st (fr' := (mkF m 32 #[.val (.int p0), .val (.int c1), .val (.int c2), .val (.int z18_0), .unset, .unset] [])) (fun t k => XS.icmpNo X0.here hx rfl (hb hby at_29) rfl (own_flt (x := c1) (y := (48 : Int32)) hc20).1 k) ?_
      refine own_st (fr' := (mkF m 33 #[.val (.int p0), .val (.int c1), .val (.int c2), .val (.int z18_0), .unset, .unset] [(.int c1)])) (fun t k => XS.iloadN X0.here hx rfl (hb hby at_32) rfl  k) ?_
      refine own_st (fr' := (mkF m 35 #[.val (.int p0), .val (.int c1), .val (.int c2), .val (.int z18_0), .unset, .unset] [(.int (57 : Int32)), (.int c1)])) (fun t k => XS.bipush X0.here hx rfl (hb hby at_33) k) ?_
      by_cases hc21 : 57 < c1.toInt
      · refine own_st (fr' := (mkF m 42 #[.val (.int p0), .val (.int c1), .val (.int c2), .val (.int z18_0), .unset, .unset] [])) (fun t k => XS.icmpYes X0.here hx rfl (pc0 := 35) (pc' := 42) rfl (hb hby at_35) rfl (own_tlt (x := (57 : Int32)) (y := c1) hc21).2.2.1 (by decide) (by decide) k) ?_
        refine own_st (fr' := (mkF m 43 #[.val (.int p0), .val (.int c1), .val (.int c2), .val (.int z18_0), .unset, .unset] [(.int (0 : Int32))])) (fun t k => XS.iconst X0.here hx rfl (hb hby at_42) k) ?_
        exact J19  (0 : Int32) (Or.inr (Or.inl ⟨hc20, hc21, rfl⟩))
      · refine own_st (fr' := (mkF m 38 #[.val (.int p0), .val (.int c1), .val (.int c2), .val (.int z18_0), .unset, .unset] [])) (fun t k => XS.icmpNo X0.here hx rfl (hb hby at_35) rfl (own_flt (x := (57 : Int32)) (y := c1) hc21).2.2.1 k) ?_
        refine own_st (fr' := (mkF m 39 #[.val (.int p0), .val (.int c1), .val (.int c2), .val (.int z18_0), .unset, .unset] [(.int (1 : Int32))])) (fun t k => XS.iconst X0.here hx rfl (hb hby at_38) k) ?_
        refine own_st (fr' := (mkF m 43 #[.val (.int p0), .val (.int c1), .val (.int c2), .val (.int z18_0), .unset, .unset] [(.int (1 : Int32))])) (fun t k => XS.goto X0.here hx rfl (pc0 := 39) (pc' := 43) rfl (hb hby at_39) (by decide) (by decide) k) ?_
        exact J19  (1 : Int32) (Or.inr (Or.inr ⟨hc20, hc21, rfl⟩))
  intro z22_0 hz22
  refine own_st (fr' := (mkF m 45 #[.val (.int p0), .val (.int c1), .val (.int c2), .val (.int z18_0), .val (.int z22_0), .unset] [])) (fun t k => XS.istore X0.here hx rfl (hb hby at_43) rfl  (l' := #[.val (.int p0), .val (.int c1), .val (.int c2), .val (.int z18_0), .val (.int z22_0), .unset]) rfl k) ?_
  refine own_st (fr' := (mkF m 46 #[.val (.int p0), .val (.int c1), .val (.int c2), .val (.int z18_0), .val (.int z22_0), .unset] [(.int z18_0)])) (fun t k => XS.iloadN X0.here hx rfl (hb hby at_45) rfl  k) ?_
  suffices J23 : ∀ (z28_0 : Int32), ((z18_0.toInt = 0 ∧ z22_0.toInt = 0 ∧ c1.toInt = 95 ∧ z28_0.toInt = 1) ∨ (z18_0.toInt = 0 ∧ z22_0.toInt = 0 ∧ ¬ c1.toInt = 95 ∧ c1.toInt = 39 ∧ z28_0.toInt = 1) ∨ (z18_0.toInt = 0 ∧ z22_0.toInt = 0 ∧ ¬ c1.toInt = 95 ∧ ¬ c1.toInt = 39 ∧ z28_0.toInt = 0) ∨ (z18_0.toInt = 0 ∧ ¬ z22_0.toInt = 0 ∧ z28_0.toInt = 1) ∨ (¬ z18_0.toInt = 0 ∧ z28_0.toInt = 1)) → Go p e below s room_1.cells room_1.slots (Q_law Z p0 h0 n0) s₁ (mkF m 71 #[.val (.int p0), .val (.int c1), .val (.int c2), .val (.int z18_0), .val (.int z22_0), .unset] [(.int z28_0)]) by
    by_cases hc24 : z18_0.toInt = 0
    · refine own_st (fr' := (mkF m 49 #[.val (.int p0), .val (.int c1), .val (.int c2), .val (.int z18_0), .val (.int z22_0), .unset] [])) (fun t k => XS.ifNo X0.here hx rfl (hb hby at_46) rfl ((if0 _ _).trans (own_teq (x := z18_0) (y := (0 : Int32)) hc24).2) k) ?_
      refine own_st (fr' := (mkF m 51 #[.val (.int p0), .val (.int c1), .val (.int c2), .val (.int z18_0), .val (.int z22_0), .unset] [(.int z22_0)])) (fun t k => XS.iload X0.here hx rfl (hb hby at_49) rfl  k) ?_
      by_cases hc25 : z22_0.toInt = 0
      · refine own_st (fr' := (mkF m 54 #[.val (.int p0), .val (.int c1), .val (.int c2), .val (.int z18_0), .val (.int z22_0), .unset] [])) (fun t k => XS.ifNo X0.here hx rfl (hb hby at_51) rfl ((if0 _ _).trans (own_teq (x := z22_0) (y := (0 : Int32)) hc25).2) k) ?_
        refine own_st (fr' := (mkF m 55 #[.val (.int p0), .val (.int c1), .val (.int c2), .val (.int z18_0), .val (.int z22_0), .unset] [(.int c1)])) (fun t k => XS.iloadN X0.here hx rfl (hb hby at_54) rfl  k) ?_
        refine own_st (fr' := (mkF m 57 #[.val (.int p0), .val (.int c1), .val (.int c2), .val (.int z18_0), .val (.int z22_0), .unset] [(.int (95 : Int32)), (.int c1)])) (fun t k => XS.bipush X0.here hx rfl (hb hby at_55) k) ?_
        by_cases hc26 : c1.toInt = 95
        · refine own_st (fr' := (mkF m 66 #[.val (.int p0), .val (.int c1), .val (.int c2), .val (.int z18_0), .val (.int z22_0), .unset] [])) (fun t k => XS.icmpYes X0.here hx rfl (pc0 := 57) (pc' := 66) rfl (hb hby at_57) rfl (own_teq (x := c1) (y := (95 : Int32)) hc26).1 (by decide) (by decide) k) ?_
          refine own_st (fr' := (mkF m 67 #[.val (.int p0), .val (.int c1), .val (.int c2), .val (.int z18_0), .val (.int z22_0), .unset] [(.int (1 : Int32))])) (fun t k => XS.iconst X0.here hx rfl (hb hby at_66) k) ?_
          refine own_st (fr' := (mkF m 71 #[.val (.int p0), .val (.int c1), .val (.int c2), .val (.int z18_0), .val (.int z22_0), .unset] [(.int (1 : Int32))])) (fun t k => XS.goto X0.here hx rfl (pc0 := 67) (pc' := 71) rfl (hb hby at_67) (by decide) (by decide) k) ?_
          exact J23  (1 : Int32) (Or.inl ⟨hc24, hc25, hc26, rfl⟩)
        · refine own_st (fr' := (mkF m 60 #[.val (.int p0), .val (.int c1), .val (.int c2), .val (.int z18_0), .val (.int z22_0), .unset] [])) (fun t k => XS.icmpNo X0.here hx rfl (hb hby at_57) rfl (own_feq (x := c1) (y := (95 : Int32)) hc26).1 k) ?_
          refine own_st (fr' := (mkF m 61 #[.val (.int p0), .val (.int c1), .val (.int c2), .val (.int z18_0), .val (.int z22_0), .unset] [(.int c1)])) (fun t k => XS.iloadN X0.here hx rfl (hb hby at_60) rfl  k) ?_
          refine own_st (fr' := (mkF m 63 #[.val (.int p0), .val (.int c1), .val (.int c2), .val (.int z18_0), .val (.int z22_0), .unset] [(.int (39 : Int32)), (.int c1)])) (fun t k => XS.bipush X0.here hx rfl (hb hby at_61) k) ?_
          by_cases hc27 : c1.toInt = 39
          · refine own_st (fr' := (mkF m 66 #[.val (.int p0), .val (.int c1), .val (.int c2), .val (.int z18_0), .val (.int z22_0), .unset] [])) (fun t k => XS.icmpNo X0.here hx rfl (hb hby at_63) rfl (own_teq (x := c1) (y := (39 : Int32)) hc27).2 k) ?_
            refine own_st (fr' := (mkF m 67 #[.val (.int p0), .val (.int c1), .val (.int c2), .val (.int z18_0), .val (.int z22_0), .unset] [(.int (1 : Int32))])) (fun t k => XS.iconst X0.here hx rfl (hb hby at_66) k) ?_
            refine own_st (fr' := (mkF m 71 #[.val (.int p0), .val (.int c1), .val (.int c2), .val (.int z18_0), .val (.int z22_0), .unset] [(.int (1 : Int32))])) (fun t k => XS.goto X0.here hx rfl (pc0 := 67) (pc' := 71) rfl (hb hby at_67) (by decide) (by decide) k) ?_
            exact J23  (1 : Int32) (Or.inr (Or.inl ⟨hc24, hc25, hc26, hc27, rfl⟩))
          · refine own_st (fr' := (mkF m 70 #[.val (.int p0), .val (.int c1), .val (.int c2), .val (.int z18_0), .val (.int z22_0), .unset] [])) (fun t k => XS.icmpYes X0.here hx rfl (pc0 := 63) (pc' := 70) rfl (hb hby at_63) rfl (own_feq (x := c1) (y := (39 : Int32)) hc27).2 (by decide) (by decide) k) ?_
            refine own_st (fr' := (mkF m 71 #[.val (.int p0), .val (.int c1), .val (.int c2), .val (.int z18_0), .val (.int z22_0), .unset] [(.int (0 : Int32))])) (fun t k => XS.iconst X0.here hx rfl (hb hby at_70) k) ?_
            exact J23  (0 : Int32) (Or.inr (Or.inr (Or.inl ⟨hc24, hc25, hc26, hc27, rfl⟩)))
      · refine own_st (fr' := (mkF m 66 #[.val (.int p0), .val (.int c1), .val (.int c2), .val (.int z18_0), .val (.int z22_0), .unset] [])) (fun t k => XS.ifYes X0.here hx rfl (pc0 := 51) (pc' := 66) rfl (hb hby at_51) rfl ((if0 _ _).trans (own_feq (x := z22_0) (y := (0 : Int32)) hc25).2) (by decide) (by decide) k) ?_
        refine own_st (fr' := (mkF m 67 #[.val (.int p0), .val (.int c1), .val (.int c2), .val (.int z18_0), .val (.int z22_0), .unset] [(.int (1 : Int32))])) (fun t k => XS.iconst X0.here hx rfl (hb hby at_66) k) ?_
        refine own_st (fr' := (mkF m 71 #[.val (.int p0), .val (.int c1), .val (.int c2), .val (.int z18_0), .val (.int z22_0), .unset] [(.int (1 : Int32))])) (fun t k => XS.goto X0.here hx rfl (pc0 := 67) (pc' := 71) rfl (hb hby at_67) (by decide) (by decide) k) ?_
        exact J23  (1 : Int32) (Or.inr (Or.inr (Or.inr (Or.inl ⟨hc24, hc25, rfl⟩))))
    · refine own_st (fr' := (mkF m 66 #[.val (.int p0), .val (.int c1), .val (.int c2), .val (.int z18_0), .val (.int z22_0), .unset] [])) (fun t k => XS.ifYes X0.here hx rfl (pc0 := 46) (pc' := 66) rfl (hb hby at_46) rfl ((if0 _ _).trans (own_feq (x := z18_0) (y := (0 : Int32)) hc24).2) (by decide) (by decide) k) ?_
      refine own_st (fr' := (mkF m 67 #[.val (.int p0), .val (.int c1), .val (.int c2), .val (.int z18_0), .val (.int z22_0), .unset] [(.int (1 : Int32))])) (fun t k => XS.iconst X0.here hx rfl (hb hby at_66) k) ?_
      refine own_st (fr' := (mkF m 71 #[.val (.int p0), .val (.int c1), .val (.int c2), .val (.int z18_0), .val (.int z22_0), .unset] [(.int (1 : Int32))])) (fun t k => XS.goto X0.here hx rfl (pc0 := 67) (pc' := 71) rfl (hb hby at_67) (by decide) (by decide) k) ?_
      exact J23  (1 : Int32) (Or.inr (Or.inr (Or.inr (Or.inr ⟨hc24, rfl⟩))))
  intro z28_0 hz28
  refine own_st (fr' := (mkF m 73 #[.val (.int p0), .val (.int c1), .val (.int c2), .val (.int z18_0), .val (.int z22_0), .val (.int z28_0)] [])) (fun t k => XS.istore X0.here hx rfl (hb hby at_71) rfl  (l' := #[.val (.int p0), .val (.int c1), .val (.int c2), .val (.int z18_0), .val (.int z22_0), .val (.int z28_0)]) rfl k) ?_
  refine own_st (fr' := (mkF m 74 #[.val (.int p0), .val (.int c1), .val (.int c2), .val (.int z18_0), .val (.int z22_0), .val (.int z28_0)] [(.int c1)])) (fun t k => XS.iloadN X0.here hx rfl (hb hby at_73) rfl  k) ?_
  refine own_callS X0 hx hZ (y := (⟨"com/example/timed_net_processes/timednetprocesses/TinaReader", "isNameCharacter", "(C)Z"⟩ : MethodName)) hown (hw _ (List.mem_of_getElem? (i := 0) rfl)) (hw _ (List.mem_of_getElem? (i := 1) rfl)) (hw _ (List.mem_of_getElem? (i := 2) rfl)) (hw _ (List.mem_of_getElem? (i := 3) rfl)) (by decide) (argsL := [(.int c1)]) (rest := []) (W := 0) (rm_isname l Z a0 hw [] c1 h0 n0 Z0 ) e0 (by rw [hml]; rfl) (lenOf pd_0 rfl) rfl (by decide) (hb hby at_74) (by decide) (by decide) (by decide) (by decide) ?_
  intro v29 T29 L29 X29 hQ29
  obtain ⟨⟨y29, rfl, hy29⟩, Nq29, eq29⟩ := hQ29
  have N29 := Fr.app N0 Nq29
  refine own_st (fr' := (mkF m 79 #[.val (.int p0), .val (.int c1), .val (.int c2), .val (.int z18_0), .val (.int z22_0), .val (.int z28_0)] [(.int z28_0), (.int y29)])) (fun t k => XS.iload X29.here hx rfl (hb hby at_77) rfl  k) ?_
  by_cases hc30 : y29.toInt = z28_0.toInt
  · refine own_st (fr' := (mkF m 82 #[.val (.int p0), .val (.int c1), .val (.int c2), .val (.int z18_0), .val (.int z22_0), .val (.int z28_0)] [])) (fun t k => XS.icmpNo X29.here hx rfl (hb hby at_79) rfl (own_teq (x := y29) (y := z28_0) hc30).2 k) ?_
    refine own_st (fr' := (mkF m 83 #[.val (.int p0), .val (.int c1), .val (.int c2), .val (.int z18_0), .val (.int z22_0), .val (.int z28_0)] [(.int (1 : Int32))])) (fun t k => XS.iconst X29.here hx rfl (hb hby at_82) k) ?_
    refine own_st (fr' := (mkF m 87 #[.val (.int p0), .val (.int c1), .val (.int c2), .val (.int z18_0), .val (.int z22_0), .val (.int z28_0)] [(.int (1 : Int32))])) (fun t k => XS.goto X29.here hx rfl (pc0 := 83) (pc' := 87) rfl (hb hby at_83) (by decide) (by decide) k) ?_
    exact own_retZ X29 hx hlk hret (Or.inr rfl) (hb hby at_87) (by decide) (by decide) (⟨rfl, N29⟩)
  · refine own_st (fr' := (mkF m 86 #[.val (.int p0), .val (.int c1), .val (.int c2), .val (.int z18_0), .val (.int z22_0), .val (.int z28_0)] [])) (fun t k => XS.icmpYes X29.here hx rfl (pc0 := 79) (pc' := 86) rfl (hb hby at_79) rfl (own_feq (x := y29) (y := z28_0) hc30).2 (by decide) (by decide) k) ?_
    refine own_st (fr' := (mkF m 87 #[.val (.int p0), .val (.int c1), .val (.int c2), .val (.int z18_0), .val (.int z22_0), .val (.int z28_0)] [(.int (0 : Int32))])) (fun t k => XS.iconst X29.here hx rfl (hb hby at_86) k) ?_
    exfalso; omega
set_option maxRecDepth 65536 in
set_option maxHeartbeats 40000000 in
theorem comes_1 {Post : Tables → Env → Array Value → State → Outcome → State → Prop} (hpost : ∀ tb e args s v u, (limb_1_1.after args s (.returned v) u = true ∧ limb_1_2.after args s (.returned v) u = true ∧ True) → FrameEnd s (.returned v) u (Jvm.fieldLocs frame_1_writes args s ++ Jvm.arrayLocs frame_1_arrays args s ++ Jvm.staticLocs frame_1_statics s) 0 0 → Post tb e args s (.returned v) u) :
    ArmFor flags0 classFile x code maxLocals ret World_1 tables_1 room_1 Calls_1 rest_1 Pre_1 Post := by
  intro l hfl _ _ p e ha hc hk s m args below hf hA hF happ hP
  obtain ⟨hcalls, hrest, hpre⟩ := hP
  obtain ⟨-, -, -, hnamed, -, -, -, hat⟩ := (Spec.applies_iff hf).mp happ
  obtain ⟨hg, hn⟩ := and_e (Cond.before_iff.mp (show (Jvm.Cond.and given_1 narrow_1).before args s = true from hpre))
  obtain ⟨hcount, ha0⟩ := and_e hg
  have hi0 := ha0
  obtain ⟨w0, rfl⟩ : ∃ w0 : Value, args = #[w0] := by
    have hs : args.size = 1 := by simpa [Cond.value, given_1] using hcount
    obtain ⟨L⟩ := args
    match L, hs with
    | [w0], _ => exact ⟨w0, rfl⟩
  have hw := fun d (hd : d ∈ tables_1) => atoms_spec (ws := Jvm.Cond.code x code maxLocals ret :: tables_1) hat d (List.mem_cons_of_mem _ hd)
  have hfit : Fit s := fun {y c} hc i hi => by
    obtain ⟨ha, rfl⟩ := Array.getElem?_eq_some_iff.mp hc
    have q := List.all_eq_true.mp ((Array.all_eq_true_iff_forall_mem.mp hF) _ (Array.getElem_mem ha)) i (List.mem_range.mpr hi)
    simpa [Array.getElem?_eq_getElem hi] using q
  obtain ⟨i0, ei0⟩ := is_v hi0
  obtain rfl : w0 = (.int i0) := Option.some.inj ei0
  obtain ⟨n, o, h1, h2, h3, _, L, rfl, ⟨rfl, N⟩, hq⟩ := rm_law l s _ hw tables_1 i0  s.heap s.heap.size (Nat.le_refl _)  p e ha hc hk s m _ below hf ((Spec.applies_iff_loose hf).mp happ).1 ⟨rfl, State.Warmed39.refl s, rfl⟩ trivial
  refine ⟨n, _, h1, h2, h3, hpost _ _ _ _ _ _ ⟨Cond.after_iff.mpr rfl, Cond.after_iff.mpr (eq_i res_at (Term.int_eval (1)) rfl), trivial⟩ ⟨hq.1, hq.2.1, (hq.2.2.sift fun y hy => Or.inr (N y hy)).mono (by decide) (by decide)⟩⟩
theorem main_1_1 : Claimed_1_1 := comes_1 fun _ _ _ _ _ _ h hF => ⟨h.1, hF⟩
theorem main_1_2 : Claimed_1_2 := comes_1 fun _ _ _ _ _ _ h hF => ⟨h.2.1, hF⟩
end Jvm.Pilot.@@N@@
namespace Jvm.Pilot.@@N@@
open Jvm Jvm.ClassFile Sem Op Lib Jvm.Free Jvm.Stand Jvm.Pilot.@@N@@.Jvm.D
/-! MADE BY PROGRAM (witnessworld.py) out of the Statement's table words and the real class files: 9 classes; the members and pool entries that the words name. The judged class is class 1, her method 1. -/
namespace start1
open Jvm.ClassFile
def u (s : String) : CpInfo := .utf8 (stringToUtf16 s)
/-- a pool by its gaps: so many unusable entries, then the entry; so many at the end -/
def gap : Nat → List CpInfo → List CpInfo
  | 0, r => r
  | n + 1, r => .unusable :: gap n r
def poolList (es : List (Nat × CpInfo)) (last : Nat) : List CpInfo := es.foldr (fun e r => gap e.1 (e.2 :: r)) (gap last [])
def pool (es : List (Nat × CpInfo)) (last : Nat) : Array CpInfo := ⟨poolList es last⟩
def fileOf (pool : Array CpInfo) (this : Nat) (attrs : Array Attribute := #[]) (ms : Array MethodInfo := #[]) (fl : Nat := 33) (sup : Nat := 0) (ifs : Array Nat := #[]) (fds : Array FieldInfo := #[]) : ClassFile where
  minorVersion := 0
  majorVersion := 65
  constantPool := pool
  accessFlags := fl
  thisClass := this
  superClass := sup
  interfaces := ifs
  fields := fds
  methods := ms
  attributes := attrs
def plain (name : String) (sup : Option ClassId) : Class where
  name := name
  kind := .ordinary
  loader := none
  accessFlags := 33
  super := sup
  interfaces := #[]
  cf := none
  fields := #[]
  methods := #[]
  instanceTypes := #[]
  staticTypes := #[]
  resolved := #[]
  callSites := []
  init := .initialized
  statics := none
  mirror := none

def pool0 : Array CpInfo := pool [(5, u "<init>"), (0, u "()V"), (1, .class_ 10), (1, u "java/lang/Object")] 113

def k0m0 : Method := { name := "<init>", desc := "()V", sig := { parameters := [], returnType := none }, accessFlags := 1, code := none }
/-- java/lang/Object -/
def k0 : Class := { plain "java/lang/Object" none with
  accessFlags := 33
  interfaces := #[]
  cf := some (fileOf pool0 8 #[] #[{ accessFlags := 1, nameIndex := 5, descriptorIndex := 6, attributes := #[] }] 33 0 #[] #[])
  fields := #[]
  methods := #[k0m0]
  instanceTypes := #[]
  staticTypes := #[]
  resolved := Array.replicate 124 none
  statics := none }

def pool1 : Array CpInfo := pool [(2, .class_ 4), (1, u "java/lang/Object"), (0, u "<init>"), (0, u "()V"), (0, .methodref 8 9), (0, .class_ 10), (0, .nameAndType 11 12), (0, u "com/example/timed_net_processes/timednetprocesses/TinaReader"), (0, u "isNameCharacter"), (0, u "(C)Z"), (0, .class_ 14), (0, u "com/example/timed_net_processes/timednetprocesses/TinaReaderIsNameCharacterPinLaw"), (2, u "law"), (0, u "(I)Z")] 3

def k1m0 : Method := { name := "<init>", desc := "()V", sig := { parameters := [], returnType := none }, accessFlags := 2, code := none }
def k1c1 : Code := { maxStack := 2, maxLocals := 6, code := code, exceptionTable := #[], attributes := #[] }
def k1m1 : Method := { name := "law", desc := "(I)Z", sig := { parameters := [.int], returnType := some .boolean }, accessFlags := 9, code := some k1c1 }
/-- com/example/timed_net_processes/timednetprocesses/TinaReaderIsNameCharacterPinLaw -/
def k1 : Class := { plain "com/example/timed_net_processes/timednetprocesses/TinaReaderIsNameCharacterPinLaw" (some 0) with
  accessFlags := 49
  interfaces := #[]
  cf := some (fileOf pool1 13 #[] #[{ accessFlags := 2, nameIndex := 5, descriptorIndex := 6, attributes := #[] }, { accessFlags := 9, nameIndex := 17, descriptorIndex := 18, attributes := #[] }] 49 2 #[] #[])
  fields := #[]
  methods := #[k1m0, k1m1]
  instanceTypes := #[]
  staticTypes := #[]
  resolved := Array.replicate 22 none
  statics := none }

def pool2 : Array CpInfo := pool [(2, .class_ 4), (1, u "java/lang/Object"), (0, u "<init>"), (0, u "()V"), (4, .class_ 13), (1, u "com/example/timed_net_processes/timednetprocesses/TinaReader"), (0, u "builder"), (0, u "Lcom/example/timed_net_processes/timednetprocesses/Net$Builder;"), (5, u "declaredPlaces"), (0, u "Ljava/util/Set;"), (39, .class_ 63), (0, u "com/example/timed_net_processes/timednetprocesses/TinaReader$Cursor"), (68, u "netLineRead"), (0, u "Z"), (13, u "DEFAULT_INTERVAL"), (0, u "Lcom/example/timed_net_processes/timednetprocesses/Interval;"), (62, u "isNameCharacter"), (0, u "(C)Z")] 27

def k2m0 : Method := { name := "<init>", desc := "()V", sig := { parameters := [], returnType := none }, accessFlags := 2, code := none }
def k2c1 : Code := { maxStack := 2, maxLocals := 1, code := prog_29_method_5_code, exceptionTable := #[], attributes := #[] }
def k2m1 : Method := { name := "isNameCharacter", desc := "(C)Z", sig := { parameters := [.char], returnType := some .boolean }, accessFlags := 8, code := some k2c1 }
/-- com/example/timed_net_processes/timednetprocesses/TinaReader -/
def k2 : Class := { plain "com/example/timed_net_processes/timednetprocesses/TinaReader" (some 0) with
  accessFlags := 33
  interfaces := #[]
  cf := some (fileOf pool2 11 #[.nestMembers #[62]] #[{ accessFlags := 2, nameIndex := 5, descriptorIndex := 6, attributes := #[] }, { accessFlags := 8, nameIndex := 211, descriptorIndex := 212, attributes := #[] }] 33 2 #[] #[{ accessFlags := 26, nameIndex := 147, descriptorIndex := 148, attributes := #[] }, { accessFlags := 18, nameIndex := 14, descriptorIndex := 15, attributes := #[] }, { accessFlags := 18, nameIndex := 21, descriptorIndex := 22, attributes := #[] }, { accessFlags := 2, nameIndex := 132, descriptorIndex := 133, attributes := #[] }])
  fields := #[{ name := "DEFAULT_INTERVAL", type := (.object "com/example/timed_net_processes/timednetprocesses/Interval"), accessFlags := 26, slot := 0, constantValue := 0 }, { name := "builder", type := (.object "com/example/timed_net_processes/timednetprocesses/Net$Builder"), accessFlags := 18, slot := 0, constantValue := 0 }, { name := "declaredPlaces", type := (.object "java/util/Set"), accessFlags := 18, slot := 1, constantValue := 0 }, { name := "netLineRead", type := .boolean, accessFlags := 2, slot := 2, constantValue := 0 }]
  methods := #[k2m0, k2m1]
  instanceTypes := #[(.object "com/example/timed_net_processes/timednetprocesses/Net$Builder"), (.object "java/util/Set"), .boolean]
  staticTypes := #[(.object "com/example/timed_net_processes/timednetprocesses/Interval")]
  resolved := Array.replicate 240 none
  statics := none }

def pool3 : Array CpInfo := pool [(1, u "java/lang/Cloneable"), (0, .class_ 1), (0, u "java/lang/Object"), (0, .class_ 3)] 3

/-- java/lang/Cloneable -/
def k3 : Class := { plain "java/lang/Cloneable" (some 0) with
  accessFlags := 1537
  interfaces := #[]
  cf := some (fileOf pool3 2 #[] #[] 1537 4 #[] #[])
  fields := #[]
  methods := #[]
  instanceTypes := #[]
  staticTypes := #[]
  resolved := Array.replicate 8 none
  statics := none }

def pool4 : Array CpInfo := pool [(1, u "java/io/Serializable"), (0, .class_ 1), (0, u "java/lang/Object"), (0, .class_ 3)] 3

/-- java/io/Serializable -/
def k4 : Class := { plain "java/io/Serializable" (some 0) with
  accessFlags := 1537
  interfaces := #[]
  cf := some (fileOf pool4 2 #[] #[] 1537 4 #[] #[])
  fields := #[]
  methods := #[]
  instanceTypes := #[]
  staticTypes := #[]
  resolved := Array.replicate 8 none
  statics := none }

/-- the primitive byte -/
def k5 : Class := { plain "byte" none with kind := .primitive 'B', accessFlags := 0x411 }
/-- [B -/
def k6 : Class := { plain "[B" (some 0) with kind := .array 5 .byte, interfaces := #[3, 4], accessFlags := 1041 }

/-- the primitive int -/
def k7 : Class := { plain "int" none with kind := .primitive 'I', accessFlags := 0x411 }
/-- [I -/
def k8 : Class := { plain "[I" (some 0) with kind := .array 7 .int, interfaces := #[3, 4], accessFlags := 1041 }

def heap : Heap := #[]
def classes : Array Class := #[k0, k1, k2, k3, k4, k5, k6, k7, k8]
def interned : List (Array UInt16 × Addr) := []
def slotsUsed : Nat := 0
def theMethod : MethodId := ⟨1, 1⟩
def args0 : Array Value := #[.int 5]
def aboutOver (below : List Frame) : State where
  vm := { classes := classes, interned := interned.toArray }
  heap := heap
  slotsUsed := slotsUsed
  threads := #[{ frames := .invoking theMethod args0 :: below }]
def below0 : List Frame := [.native { method := ⟨0, 0⟩, args := #[] }]
def about1 : State := aboutOver below0
def p0 : Program := .bare "" "" ""
def e0 : Env := launch0.env 0 0 0
theorem w_frames : about1.frames = Frame.invoking theMethod args0 :: below0 := rfl
set_option maxRecDepth 65536 in
theorem w_args : argsFit about1.vm theMethod args0 = true := by decide +kernel
set_option maxRecDepth 65536 in
theorem w_heap : heapFits about1 = true := by decide +kernel
set_option maxRecDepth 65536 in
theorem w_runnable : about1.curStatus? = some .runnable := by decide +kernel
set_option maxRecDepth 65536 in
theorem w_alone : about1.alone = true := by decide +kernel
set_option maxRecDepth 65536 in
theorem w_named : about1.methodNamed? x = some theMethod := by decide +kernel
set_option maxRecDepth 65536 in
theorem w_hears : about1.hears theMethod below0 = true := by decide +kernel
set_option maxRecDepth 65536 in
theorem w_ripe : about1.ripe theMethod args0 below0 = true := by decide +kernel
theorem w_running : about1.status = .running := rfl
set_option maxRecDepth 65536 in
theorem w_room : about1.hasRoom e0.platform room_1 = true :=
  launch0.hasRoom_least _ room_1 (by decide +kernel) (by decide +kernel) (by decide +kernel) (by decide +kernel) (by decide +kernel) (by decide +kernel)
theorem allAtoms_all (ts : List Jvm.Cond) (a : Array Jvm.Value) (st : Jvm.State) : (allAtoms ts).before a st = ts.all (fun c => c.before a st) := by
  induction ts with
  | nil => rfl
  | cons c t ih =>
    show (Jvm.Cond.and c (allAtoms t)).before a st = _
    rw [Jvm.Cond.before_and, ih, List.all_cons]
def words1 : List Jvm.Cond := Jvm.Cond.code x code maxLocals ret :: tables_1
/-- a 'code' word, met by the world's own term for the bytes: nothing is compared byte by byte -/
theorem code_word {y : MethodName} {bytes : ByteArray} {mx : Nat} {rt : Option FieldType} {a : Array Value} {s : State} {m : MethodId} {meth : Method} {c : Code} (h1 : s.methodNamed? y = some m) (h2 : s.vm.method? m = some meth) (h3 : meth.code = some c) (h4 : c.code = bytes)
    (h5 : (c.maxLocals == mx && c.exceptionTable.isEmpty && decide (c.maxStack ≤ mostOperands) && decide (meth.sig.returnType = rt) && !meth.locks && decide (parseMethodDescriptor y.desc = some meth.sig)) = true) : (Jvm.Cond.code y bytes mx rt).before a s = true := by
  simp only [Bool.and_eq_true, beq_iff_eq, Bool.not_eq_true', decide_eq_true_eq] at h5
  obtain ⟨⟨⟨⟨⟨g1, g2⟩, g3⟩, g4⟩, g5⟩, g6⟩ := h5
  simp [Cond.before, Cond.holds, Cond.value, h1, h2, h3, h4, g1, g2, g3, g4, g5, g6]
def isCode : Jvm.Cond → Bool
  | .code _ _ _ _ => true
  | _ => false
theorem all_split {L : List Jvm.Cond} {P : Jvm.Cond → Bool} (h1 : L.all (fun c => isCode c || P c) = true) (h2 : ∀ c ∈ L.filter isCode, P c = true) : L.all P = true := by
  refine List.all_eq_true.mpr fun c hc => ?_
  have h := List.all_eq_true.mp h1 c hc
  rcases Bool.eq_false_or_eq_true (isCode c) with hi | hi
  · exact h2 c (List.mem_filter.mpr ⟨hc, hi⟩)
  · simpa [hi] using h
set_option maxRecDepth 65536 in
theorem w_c0 : (Jvm.Cond.code x code maxLocals ret).before args0 about1 = true := code_word (m := ⟨1, 1⟩) (meth := k1m1) (c := k1c1) (by decide +kernel) rfl rfl rfl (by decide +kernel)
set_option maxRecDepth 65536 in
theorem w_c1 : (Jvm.Cond.code ({ cls := "com/example/timed_net_processes/timednetprocesses/TinaReader", name := "isNameCharacter", desc := "(C)Z" } : Jvm.MethodName) prog_29_method_5_code (1 : Nat) (Option.some Jvm.ClassFile.FieldType.boolean)).before args0 about1 = true := code_word (m := ⟨2, 1⟩) (meth := k2m1) (c := k2c1) (by decide +kernel) rfl rfl rfl (by decide +kernel)
def codes1 : List Jvm.Cond := [Jvm.Cond.code x code maxLocals ret, Jvm.Cond.code ({ cls := "com/example/timed_net_processes/timednetprocesses/TinaReader", name := "isNameCharacter", desc := "(C)Z" } : Jvm.MethodName) prog_29_method_5_code (1 : Nat) (Option.some Jvm.ClassFile.FieldType.boolean)]
set_option maxRecDepth 65536 in
theorem codes_eq : words1.filter isCode = codes1 := rfl
theorem w_codes : ∀ c ∈ words1.filter isCode, c.before args0 about1 = true := by
  rw [codes_eq]
  intro c hc
  simp only [codes1, List.mem_cons, List.not_mem_nil, or_false] at hc
  rcases hc with rfl | rfl
  · exact w_c0
  · exact w_c1
set_option maxRecDepth 65536 in
theorem w_t1 : words1.all (fun c => isCode c || c.before args0 about1) = true := by decide +kernel
theorem w_tables : (allAtoms (Jvm.Cond.code x code maxLocals ret :: tables_1)).before args0 about1 = true := by
  rw [allAtoms_all]
  show words1.all (fun c => c.before args0 about1) = true
  refine all_split ?_ w_codes
  rw [w_t1]
set_option maxRecDepth 65536 in
theorem w_case : (Jvm.Cond.and given_1 narrow_1).before args0 about1 = true := by decide +kernel
theorem w_applies : (headSpec (Jvm.Cond.code x code maxLocals ret :: tables_1) room_1).applies x e0.platform about1 = true :=
  (Spec.applies_iff w_frames).mpr ⟨w_running, w_runnable, w_alone, w_named, w_hears, w_ripe, w_room, w_tables⟩
theorem atStart : AtStart classFile x code maxLocals ret World_1 tables_1 room_1 Calls_1 rest_1 Pre_1 launch0 p0 e0 about1 theMethod args0 below0 :=
  ⟨lists_1, trivial, launch0.admits_env _ _ _, launch0.least_env, fairChoices_fair.cas, fairChoices_fair.clock, w_frames, w_args, w_heap, w_applies, trivial, trivial, w_case⟩
end start1
theorem witness_1 : WitnessClaimed_1 := ⟨start1.p0, start1.e0, start1.about1, start1.theMethod, start1.args0, start1.below0, start1.atStart⟩
end Jvm.Pilot.@@N@@
