import JvmDerived
import JvmDerived.Pilot.@@N@@Statement
import JvmDerived.Pilot.@@N@@Code
set_option linter.unusedVariables false
set_option linter.unusedSimpArgs false
namespace Jvm.Pilot.@@N@@
open Jvm Jvm.ClassFile Sem Op Lib Jvm.Free Jvm.Stand Jvm.LawKit Jvm.RoadKit Bundle Jvm.Pilot.@@N@@.Jvm.D
/-- from T with the frame fr on top the invocation ends; Q holds of what it returned, of the heap and of the written places; kc cells and ks slots at most are new -/
def Go (p : Program) (e : Env) (below : List Frame) (s : State) (kc ks : Nat) (Q : Option Value → Heap → List Loc → Prop) (T : State) (fr : JFrame) : Prop :=
  ∃ s₂ o, Steps p.tables e below (T.setTop fr) s₂ ∧ s₂.status = .running ∧ Ended s₂ below o ∧ ∃ v L, o = .returned v ∧ Q v s₂.heap L ∧ FrameEnd s o s₂ L kc ks
section OwnKit
variable {p : Program} {l : Launch} {e : Env} {R : Room} {s : State} {m : MethodId} {args : Array Value} {below : List Frame} {meth : Method} {c : Code} {T T' : State} {locs : List Loc} {cells slots : Nat} {Z : State} {a0 : Array Value} {h : Heap} {kc ks : Nat} {Q : Option Value → Heap → List Loc → Prop}
theorem own_st {fr fr' : JFrame} (st : ∀ t, Steps p.tables e below (T'.setTop fr') t → Steps p.tables e below (T.setTop fr) t) (k : Go p e below s kc ks Q T' fr') : Go p e below s kc ks Q T fr := by
  obtain ⟨s₂, o, h1, h2⟩ := k
  exact ⟨s₂, o, st _ h1, h2⟩
theorem own_tr {fr fr' : JFrame} (st : Steps p.tables e below (T.setTop fr) (T'.setTop fr')) (k : Go p e below s kc ks Q T' fr') : Go p e below s kc ks Q T fr :=
  own_st (fun _ q => st.trans q) k
theorem own_met {y : MethodName} {bytes : ByteArray} {maxL : Nat} {ret : Option FieldType} {ws : List Jvm.Cond} {rm : Room} {as' : Array Value} {Ls : Array Slot} {h0 : Heap} (hn : plainFor y = true) (hef : ∀ m : MethodId, entryFrame m as' maxL = mkF m 0 Ls [])
    (body : ∀ (p : Program) (e : Env) (s : State) (m : MethodId) (below : List Frame) (meth : Method) (c : Code) (s₁ : State), p.tables.exec = Jvm.exec → c.code = bytes → c.maxLocals = maxL → meth.sig.returnType = ret → meth.locks = false → Z.Warmed39 s.vm → s.vm.findClass y.cls = some m.cls → meth.name = y.name →
      Stand p l e rm s m as' below meth c s₁ [] 0 0 → s₁.heap = h0 → s.heap = h0 → Go p e below s rm.cells rm.slots Q s₁ (mkF m 0 Ls [])) :
    MetFree l y (head1 (Jvm.Cond.code y bytes maxL ret :: ws) rm) (fun a U => a = as' ∧ Z.Warmed39 U.vm ∧ U.heap = h0) (fun _ _ _ _ _ => True) (fun _ U o U' => ∃ v L, o = .returned v ∧ Q v U'.heap L ∧ FrameEnd U o U' L rm.cells rm.slots) := by
  refine MetFree.of_bodySF hn hisR ?_
  intro p e s m args below meth c s₁ Bd hml0 hP hK
  obtain ⟨rfl, hZ, hh⟩ := hP
  have hg := body p e s m below meth c s₁ Bd.exec Bd.bytes hml0 Bd.returns Bd.notSynchronized hZ (findClass_of_methodNamed Bd.named) (name_of_methodNamed Bd.named Bd.method).1 (Stand.of_body Bd) (by rw [← hh, Bd.state]; rfl) hh
  unfold Go at hg
  rw [← hef m] at hg
  exact hg
theorem own_ret (X : Stand p l e R s m args below meth c T locs cells slots) (hx : p.tables.exec = Jvm.exec) (hlk : meth.locks = false) {pc : Nat} {Ls : Array Slot} {w : Value} {t : FieldType} {i : Instr} {rest : List Value} (hret : meth.sig.returnType = some t) (hn : narrow t w = w)
    (hi : (i = .ireturn ∧ (t = .int ∨ t = .boolean ∨ t = .byte ∨ t = .char ∨ t = .short) ∧ ∃ z, w = .int z) ∨ (i = .lreturn ∧ t = .long ∧ ∃ z, w = .long z) ∨ (i = .dreturn ∧ t = .double ∧ ∃ z, w = .double z) ∨ (i = .freturn ∧ t = .float ∧ ∃ z, w = .float z) ∨ (i = .areturn ∧ t.isReference = true ∧ w.isRef = true))
    (hd : decode c.code pc = .ok (i, 1)) (hc : cells ≤ kc) (hs : slots ≤ ks) (hq : Q (some w) T.heap locs) : Go p e below s kc ks Q T (mkF m pc Ls (w :: rest)) := by
  obtain ⟨fs, hr, hrun, hended, hW, hsame⟩ := X.leave (v := some w) (fun h => by rw [hret] at h; cases h) hlk
  exact ⟨_, _, retOut X hx hret hn hi hd hr, hrun, hended, _, _, rfl, hq, ⟨_, rfl⟩, hW, hsame.mono hc hs⟩
theorem own_retI (X : Stand p l e R s m args below meth c T locs cells slots) (hx : p.tables.exec = Jvm.exec) (hlk : meth.locks = false) {pc : Nat} {Ls : Array Slot} {z : Int32} {rest : List Value} (hret : meth.sig.returnType = some .int)
    (hd : decode c.code pc = .ok (.ireturn, 1)) (hc : cells ≤ kc) (hs : slots ≤ ks) (hq : Q (some (.int z)) T.heap locs) : Go p e below s kc ks Q T (mkF m pc Ls (.int z :: rest)) :=
  own_ret X hx hlk hret rfl (Or.inl ⟨rfl, Or.inl rfl, _, rfl⟩) hd hc hs hq
theorem own_retJ (X : Stand p l e R s m args below meth c T locs cells slots) (hx : p.tables.exec = Jvm.exec) (hlk : meth.locks = false) {pc : Nat} {Ls : Array Slot} {z : Int64} {rest : List Value} (hret : meth.sig.returnType = some .long)
    (hd : decode c.code pc = .ok (.lreturn, 1)) (hc : cells ≤ kc) (hs : slots ≤ ks) (hq : Q (some (.long z)) T.heap locs) : Go p e below s kc ks Q T (mkF m pc Ls (.long z :: rest)) :=
  own_ret X hx hlk hret rfl (Or.inr (Or.inl ⟨rfl, rfl, _, rfl⟩)) hd hc hs hq
theorem own_retA (X : Stand p l e R s m args below meth c T locs cells slots) (hx : p.tables.exec = Jvm.exec) (hlk : meth.locks = false) {pc : Nat} {Ls : Array Slot} {w : Value} {t : FieldType} {rest : List Value} (hret : meth.sig.returnType = some t) (ht : t.isReference = true) (hw : w.isRef = true)
    (hd : decode c.code pc = .ok (.areturn, 1)) (hc : cells ≤ kc) (hs : slots ≤ ks) (hq : Q (some w) T.heap locs) : Go p e below s kc ks Q T (mkF m pc Ls (w :: rest)) :=
  own_ret X hx hlk hret (by cases w <;> simp [Value.isRef] at hw <;> cases t <;> simp [FieldType.isReference] at ht <;> rfl) (Or.inr (Or.inr (Or.inr (Or.inr ⟨rfl, ht, hw⟩)))) hd hc hs hq
theorem own_retV (X : Stand p l e R s m args below meth c T locs cells slots) (hx : p.tables.exec = Jvm.exec) (hlk : meth.locks = false) {pc : Nat} {Ls : Array Slot} (hret : meth.sig.returnType = none)
    (hd : decode c.code pc = .ok (.return_, 1)) (hc : cells ≤ kc) (hs : slots ≤ ks) (hq : Q none T.heap locs) : Go p e below s kc ks Q T (mkF m pc Ls []) := by
  obtain ⟨fs, hr, hrun, hended, hW, hsame⟩ := X.leave (v := none) (fun _ => rfl) hlk
  exact ⟨_, _, X.returnOut hx hret hd hr, hrun, hended, _, _, rfl, hq, ⟨_, rfl⟩, hW, hsame.mono hc hs⟩
theorem own_bit {z : Int32} (h : z.toInt = 0 ∨ z.toInt = 1) : z = 0 ∨ z = 1 := by
  rcases h with h | h
  · exact Or.inl (Int32.toInt_inj.mp h)
  · exact Or.inr (Int32.toInt_inj.mp h)
theorem own_retZ (X : Stand p l e R s m args below meth c T locs cells slots) (hx : p.tables.exec = Jvm.exec) (hlk : meth.locks = false) {pc : Nat} {Ls : Array Slot} {z : Int32} {rest : List Value} (hret : meth.sig.returnType = some .boolean) (hz : z.toInt = 0 ∨ z.toInt = 1)
    (hd : decode c.code pc = .ok (.ireturn, 1)) (hc : cells ≤ kc) (hs : slots ≤ ks) (hq : Q (some (.int z)) T.heap locs) : Go p e below s kc ks Q T (mkF m pc Ls (.int z :: rest)) :=
  own_ret X hx hlk hret (by rcases own_bit hz with rfl | rfl <;> rfl) (Or.inl ⟨rfl, Or.inr (Or.inl rfl), _, rfl⟩) hd hc hs hq
theorem own_one {z : Int32} (h : z.toInt = 1) : z = 1 := Int32.toInt_inj.mp h
/-- a static call by the callee's contract -/
theorem own_callS (X : Stand p l e R s m args below meth c T locs cells slots) (hx : p.tables.exec = Jvm.exec) (hZ : Z.Warmed39 s.vm) {own : String} {index : Nat} {y : MethodName} {bytes : ByteArray} {maxL : Nat} {ret : Option FieldType} (hown : s.vm.findClass own = some m.cls)
    (w1 : (Jvm.Cond.methodLink own index y).before a0 Z = true) (w2 : (Jvm.Cond.static y).before a0 Z = true) (w3 : (Jvm.Cond.initialized y.cls).before a0 Z = true) (w4 : (Jvm.Cond.code y bytes maxL ret).before a0 Z = true) (hy : y.cls ≠ "java/lang/invoke/MethodHandle" ∧ y.cls ≠ "java/lang/invoke/VarHandle")
    {rm : Room} {Q' : Option Value → Heap → List Loc → Prop} {argsL rest stk : List Value} {pc W : Nat} {Ls : Array Slot}
    (hM : MetFree l y (head1 [Jvm.Cond.code y bytes maxL ret] rm) (fun a U => a = argsL.toArray ∧ Z.Warmed39 U.vm ∧ U.heap = h) (fun _ _ _ _ _ => True) (fun _ U o U' => ∃ v L, o = .returned v ∧ Q' v U'.heap L ∧ FrameEnd U o U' L rm.cells rm.slots))
    (eT : T.heap = h) (hsize : Ls.size = c.maxLocals) (hlen : ∀ sig, parseMethodDescriptor y.desc = some sig → argsL.length = sig.parameters.length) (hst : stk = argsL.reverse ++ rest) (hW : (rest.map fun v => v.category).sum ≤ W) (hd : decode c.code pc = .ok (.invokestatic index, 3))
    (hf : rm.frames + 1 ≤ R.frames) (hl : W + (maxL + 11) + rm.locals ≤ R.locals) (hc : cells + rm.cells ≤ R.cells) (hs : slots + rm.slots ≤ R.slots)
    (k : ∀ (v : Option Value) (T' : State) (L : List Loc), Stand p l e R s m args below meth c T' (locs ++ L) (cells + rm.cells) (slots + rm.slots) → Q' v T'.heap L → Go p e below s kc ks Q T' (mkF m (pc + 3) Ls (v.toList ++ rest))) :
    Go p e below s kc ks Q T (mkF m pc Ls stk) := by
  subst hst
  obtain ⟨v, _, ⟨T1, L1, k1, n1⟩, -, X1, ⟨Lc, hQ, l1, y1, z1⟩, st⟩ := Jvm.LawKit.callS X hx (y := y) hown (mvT hZ w1) (mvT hZ w2) (mvT hZ w3) (mvT hZ w4) hy (backOf (W := W) hM hZ w4 w3 hf hl) (g := mkF m pc Ls (argsL.reverse ++ rest)) rfl hsize (argsL := argsL) (rest := rest) hlen rfl (by show 2 * 0 + _ ≤ _; omega) hd (fun _ _ => ⟨rfl, eT, hc, hs⟩)
  dsimp only [Pt.U, Pt.locs, Pt.cells, Pt.slots] at X1 l1 y1 z1 st hQ
  subst l1 y1 z1
  exact own_st st (k v T1 Lc X1 hQ)
/-- a constructor by its contract -/
theorem own_callN (X : Stand p l e R s m args below meth c T locs cells slots) (hx : p.tables.exec = Jvm.exec) (hZ : Z.Warmed39 s.vm) {own : String} {index : Nat} {y : MethodName} {bytes : ByteArray} {maxL : Nat} (hown : s.vm.findClass own = some m.cls) (hy1 : y.name = "<init>")
    (w1 : (Jvm.Cond.methodLink own index y).before a0 Z = true) (w2 : (Jvm.Cond.instanceMethod y).before a0 Z = true) (w3 : (Jvm.Cond.initialized y.cls).before a0 Z = true) (w4 : (Jvm.Cond.code y bytes maxL none).before a0 Z = true) (hy : y.cls ≠ "java/lang/invoke/MethodHandle" ∧ y.cls ≠ "java/lang/invoke/VarHandle")
    {rm : Room} {Q' : Option Value → Heap → List Loc → Prop} {a : Addr} {argsL rest stk : List Value} {pc W : Nat} {Ls : Array Slot}
    (hM : MetFree l y (head1 [Jvm.Cond.code y bytes maxL none] rm) (fun a' U => a' = (.ref a :: argsL).toArray ∧ Z.Warmed39 U.vm ∧ U.heap = h) (fun _ _ _ _ _ => True) (fun _ U o U' => ∃ v L, o = .returned v ∧ Q' v U'.heap L ∧ FrameEnd U o U' L rm.cells rm.slots))
    (eT : T.heap = h) (hsize : Ls.size = c.maxLocals) (hlen : ∀ sig, parseMethodDescriptor y.desc = some sig → argsL.length = sig.parameters.length) (hst : stk = argsL.reverse ++ .ref a :: rest) (hW : (rest.map fun v => v.category).sum ≤ W) (hd : decode c.code pc = .ok (.invokespecial index, 3))
    (hf : rm.frames + 1 ≤ R.frames) (hl : W + (maxL + 11) + rm.locals ≤ R.locals) (hc : cells + rm.cells ≤ R.cells) (hs : slots + rm.slots ≤ R.slots)
    (k : ∀ (v : Option Value) (T' : State) (L : List Loc), Stand p l e R s m args below meth c T' (locs ++ L) (cells + rm.cells) (slots + rm.slots) → Q' v T'.heap L → Go p e below s kc ks Q T' (mkF m (pc + 3) Ls (v.toList ++ rest))) :
    Go p e below s kc ks Q T (mkF m pc Ls stk) := by
  subst hst
  obtain ⟨v, _, ⟨T1, L1, k1, n1⟩, -, X1, ⟨Lc, hQ, l1, y1, z1⟩, st⟩ := X.specialBack hx (y := y) hy1 hown (mvT hZ w1) (mvT hZ w2) (mvT hZ w4) hy (backOf (W := W) hM hZ w4 w3 hf hl) (g := mkF m pc Ls (argsL.reverse ++ .ref a :: rest)) rfl hsize (Steps.refl _) (a := a) (argsL := argsL) (rest := rest) hlen rfl (by show 2 * 0 + _ ≤ _; omega) hd (fun _ _ => ⟨rfl, eT, hc, hs⟩)
  dsimp only [Pt.U, Pt.locs, Pt.cells, Pt.slots] at X1 l1 y1 z1 st hQ
  subst l1 y1 z1
  exact own_tr st (k v T1 Lc X1 hQ)
/-- an instance method by the contract of the body that the receiver's class selects -/
theorem own_callV (X : Stand p l e R s m args below meth c T locs cells slots) (hx : p.tables.exec = Jvm.exec) (hZ : Z.Warmed39 s.vm) {own C : String} {index : Nat} {y z : MethodName} {bytes : ByteArray} {maxL : Nat} {ret : Option FieldType} (hown : s.vm.findClass own = some m.cls)
    (w1 : (Jvm.Cond.methodLink own index y).before a0 Z = true) (w2 : (Jvm.Cond.declares y).before a0 Z = true) (hnf : NotFace s y) (w3 : (Jvm.Cond.selects C y z).before a0 Z = true) (w4 : (Jvm.Cond.instanceMethod z).before a0 Z = true) (w5 : (Jvm.Cond.initialized z.cls).before a0 Z = true) (w6 : (Jvm.Cond.code z bytes maxL ret).before a0 Z = true) (hy : y.cls ≠ "java/lang/invoke/MethodHandle" ∧ y.cls ≠ "java/lang/invoke/VarHandle")
    {rm : Room} {Q' : Option Value → Heap → List Loc → Prop} {a : Addr} {argsL rest stk : List Value} {pc W : Nat} {Ls : Array Slot}
    (hM : MetFree l z (head1 [Jvm.Cond.code z bytes maxL ret] rm) (fun a' U => a' = (.ref a :: argsL).toArray ∧ Z.Warmed39 U.vm ∧ U.heap = h) (fun _ _ _ _ _ => True) (fun _ U o U' => ∃ v L, o = .returned v ∧ Q' v U'.heap L ∧ FrameEnd U o U' L rm.cells rm.slots))
    (eT : T.heap = h) (E : Exa Z h a C) (hsize : Ls.size = c.maxLocals) (hlen : ∀ sig, parseMethodDescriptor y.desc = some sig → argsL.length = sig.parameters.length) (hst : stk = argsL.reverse ++ .ref a :: rest) (hW : (rest.map fun v => v.category).sum ≤ W) (hd : decode c.code pc = .ok (.invokevirtual index, 3))
    (hf : rm.frames + 1 ≤ R.frames) (hl : W + (maxL + 11) + rm.locals ≤ R.locals) (hc : cells + rm.cells ≤ R.cells) (hs : slots + rm.slots ≤ R.slots)
    (k : ∀ (v : Option Value) (T' : State) (L : List Loc), Stand p l e R s m args below meth c T' (locs ++ L) (cells + rm.cells) (slots + rm.slots) → Q' v T'.heap L → Go p e below s kc ks Q T' (mkF m (pc + 3) Ls (v.toList ++ rest))) :
    Go p e below s kc ks Q T (mkF m pc Ls stk) := by
  subst hst
  obtain ⟨cq, kq, qa, qb, qc⟩ := isOf hZ eT E
  obtain ⟨v, _, ⟨T1, L1, k1, n1⟩, -, X1, ⟨Lc, hQ, l1, y1, z1⟩, st⟩ := X.virtualBack hx (y := y) (z := z) hown (mvT hZ w1) (mvT hZ w2) hnf (mvT hZ w3) (mvT hZ w4) hy (backOf (W := W) hM hZ w6 w5 hf hl) qa qc (g := mkF m pc Ls (argsL.reverse ++ .ref a :: rest)) rfl hsize (Steps.refl _) (argsL := argsL) (rest := rest) hlen rfl (by show 2 * 0 + _ ≤ _; omega) hd (fun _ _ => ⟨rfl, eT, hc, hs⟩)
  dsimp only [Pt.U, Pt.locs, Pt.cells, Pt.slots] at X1 l1 y1 z1 st hQ
  subst l1 y1 z1
  exact own_tr st (k v T1 Lc X1 hQ)
/-- the branches, by the integers' worth -/
theorem own_tlt {x y : Int32} (h : x.toInt < y.toInt) : if_icmp.holds .lt x y = true ∧ if_icmp.holds .ge x y = false ∧ if_icmp.holds .gt y x = true ∧ if_icmp.holds .le y x = false := tlt (Int32.lt_iff_toInt_lt.mpr h)
theorem own_flt {x y : Int32} (h : ¬ x.toInt < y.toInt) : if_icmp.holds .lt x y = false ∧ if_icmp.holds .ge x y = true ∧ if_icmp.holds .gt y x = false ∧ if_icmp.holds .le y x = true := flt fun q => h (Int32.lt_iff_toInt_lt.mp q)
theorem own_teq {x y : Int32} (h : x.toInt = y.toInt) : if_icmp.holds .eq x y = true ∧ if_icmp.holds .ne x y = false := teq (Int32.toInt_inj.mp h)
theorem own_feq {x y : Int32} (h : ¬ x.toInt = y.toInt) : if_icmp.holds .eq x y = false ∧ if_icmp.holds .ne x y = true := feq fun q => h (congrArg _ q)
theorem own_tltL {x y : Int64} (h : x.toInt < y.toInt) : ifCond.holds .lt (lcmpW x y) = true ∧ ifCond.holds .ge (lcmpW x y) = false := by
  have q := tlt ((lw_lt x y).mpr (Int64.lt_iff_toInt_lt.mpr h))
  exact ⟨(if0 _ _).trans q.1, (if0 _ _).trans q.2.1⟩
theorem own_fltL {x y : Int64} (h : ¬ x.toInt < y.toInt) : ifCond.holds .lt (lcmpW x y) = false ∧ ifCond.holds .ge (lcmpW x y) = true := by
  have q := flt fun r => h (Int64.lt_iff_toInt_lt.mp ((lw_lt x y).mp r))
  exact ⟨(if0 _ _).trans q.1, (if0 _ _).trans q.2.1⟩
theorem own_tgtL {x y : Int64} (h : y.toInt < x.toInt) : ifCond.holds .gt (lcmpW x y) = true ∧ ifCond.holds .le (lcmpW x y) = false := by
  have q := tlt ((lw_gt x y).mpr (Int64.lt_iff_toInt_lt.mpr h))
  exact ⟨(if0 _ _).trans q.2.2.1, (if0 _ _).trans q.2.2.2⟩
theorem own_fgtL {x y : Int64} (h : ¬ y.toInt < x.toInt) : ifCond.holds .gt (lcmpW x y) = false ∧ ifCond.holds .le (lcmpW x y) = true := by
  have q := flt fun r => h (Int64.lt_iff_toInt_lt.mp ((lw_gt x y).mp r))
  exact ⟨(if0 _ _).trans q.2.2.1, (if0 _ _).trans q.2.2.2⟩
theorem own_teqL {x y : Int64} (h : x.toInt = y.toInt) : ifCond.holds .eq (lcmpW x y) = true ∧ ifCond.holds .ne (lcmpW x y) = false := by
  have q := teq ((lw_eq x y).mpr (Int64.toInt_inj.mp h))
  exact ⟨(if0 _ _).trans q.1, (if0 _ _).trans q.2⟩
theorem own_feqL {x y : Int64} (h : ¬ x.toInt = y.toInt) : ifCond.holds .eq (lcmpW x y) = false ∧ ifCond.holds .ne (lcmpW x y) = true := by
  have q := feq fun r => h (congrArg _ ((lw_eq x y).mp r))
  exact ⟨(if0 _ _).trans q.1, (if0 _ _).trans q.2⟩
/-- an array by its length and what each place holds -/
def own_A (Z : State) (h : Heap) (a : Addr) (ty : FieldType) (n : Int32) (f : Nat → Value) : Prop := ∃ cl : Cell, Arr Z h a cl ty ∧ cl.slots.size = n.toNatClampNeg ∧ 0 ≤ n.toInt ∧ (∀ i, i < cl.slots.size → cl.slots[i]? = some (f i)) ∧ ∀ i, i < cl.slots.size → fits ty (f i) = true
theorem own_cl {n : Int32} : n.toNatClampNeg = n.toInt.toNat := rfl
theorem own_nneg {n : Int32} (h : 0 ≤ n.toInt) : ¬ n < 0 := fun q => by
  have q := Int32.lt_iff_toInt_lt.mp q
  have : (0 : Int32).toInt = 0 := rfl
  omega
theorem own_in {cl : Cell} {n j : Int32} (hs : cl.slots.size = n.toNatClampNeg) (h0 : 0 ≤ j.toInt) (h1 : j.toInt < n.toInt) : ¬ (j < 0 ∨ cl.slots.size ≤ j.toNatClampNeg) := by
  rintro (q | q)
  · exact own_nneg h0 q
  · rw [hs, own_cl, own_cl] at q; omega
theorem own_ilt {cl : Cell} {n j : Int32} (hs : cl.slots.size = n.toNatClampNeg) (h0 : 0 ≤ j.toInt) (h1 : j.toInt < n.toInt) : j.toInt.toNat < cl.slots.size := by rw [hs, own_cl]; omega
section OwnArr
variable {h h' : Heap} {a b : Addr} {ty : FieldType} {n : Int32} {f g : Nat → Value} {sl : Nat} {v : Value} {ws : List Addr}
theorem own_A.lt (F : own_A Z h a ty n f) : a < h.size := by obtain ⟨c, A, -⟩ := F; exact A.lt
theorem own_A.ext (F : own_A Z h a ty n f) (E : Ext h h') : own_A Z h' a ty n f := by obtain ⟨c, A, r⟩ := F; exact ⟨c, A.ext E, r⟩
theorem own_A.other (F : own_A Z h b ty n f) (W : Wr h h' a sl v) (q : b ≠ a) : own_A Z h' b ty n f := by obtain ⟨c, A, r⟩ := F; exact ⟨c, A.other W q, r⟩
theorem own_A.keep (F : own_A Z h a ty n f) (K : Keep h h' ws) (q : a ∉ ws) : own_A Z h' a ty n f := by obtain ⟨c, A, r⟩ := F; exact ⟨c, ⟨K.2.1 a c A.1 q, A.2⟩, r⟩
theorem own_A.congr (F : own_A Z h a ty n f) (q : ∀ i : Nat, (i : Int) < n.toInt → f i = g i) : own_A Z h a ty n g := by
  obtain ⟨c, A, hs, h0, H, G⟩ := F
  have t : ∀ i, i < c.slots.size → f i = g i := fun i hi => q i (by rw [hs, own_cl] at hi; omega)
  exact ⟨c, A, hs, h0, fun i hi => by rw [← t i hi]; exact H i hi, fun i hi => by rw [← t i hi]; exact G i hi⟩
theorem own_A.new {k : ClassId} (A : Arr Z h a (newA k ty n) ty) (q : 0 ≤ n.toInt) (hd : fits ty (defaultValue ty) = true) : own_A Z h a ty n (fun _ => defaultValue ty) :=
  ⟨_, A, sz_new _ _ _, q, fun i hi => by
    rw [sz_new] at hi
    simp [newA, hi], fun _ _ => hd⟩
theorem own_A.setN {cl : Cell} (A : Arr Z h a cl ty) (hs : cl.slots.size = n.toNatClampNeg) (h0 : 0 ≤ n.toInt) (H : ∀ i, i < cl.slots.size → cl.slots[i]? = some (f i)) (G : ∀ i, i < cl.slots.size → fits ty (f i) = true) (hv : fits ty v = true) {j : Nat} (W : Wr h h' a j v) (hj : j < cl.slots.size) :
    own_A Z h' a ty n (fun i => if i = j then v else f i) := by
  refine ⟨_, A.same W, by rw [sz_set]; exact hs, h0, fun i hi => ?_, fun i hi => ?_⟩
  · rw [sz_set] at hi
    by_cases e : i = j
    · subst e; simp [Cell.setSlot, hj]
    · have : j ≠ i := fun q => e q.symm
      simp [Cell.setSlot, e, this, H i hi]
  · rw [sz_set] at hi
    by_cases e : i = j
    · simp [e, hv]
    · simp [e, G i hi]
theorem own_A.set {cl : Cell} (A : Arr Z h a cl ty) (hs : cl.slots.size = n.toNatClampNeg) (h0 : 0 ≤ n.toInt) (H : ∀ i, i < cl.slots.size → cl.slots[i]? = some (f i)) (G : ∀ i, i < cl.slots.size → fits ty (f i) = true) (hv : fits ty v = true) {j : Int32} (W : Wr h h' a j.toNatClampNeg v) (hj : j.toInt.toNat < cl.slots.size) :
    own_A Z h' a ty n (fun i => if i = j.toInt.toNat then v else f i) := own_A.setN A hs h0 H G hv (j := j.toInt.toNat) W hj
end OwnArr
theorem own_A.int {h : Heap} {a : Addr} {n j : Int32} {f : Nat → Value} (F : own_A Z h a .int n f) (h0 : 0 ≤ j.toInt) (h1 : j.toInt < n.toInt) : ∃ z : Int32, f j.toInt.toNat = .int z := by
  obtain ⟨c, A, hs, hn, H, G⟩ := F
  exact fit_I (G _ (own_ilt hs h0 h1)) (Or.inl rfl)
theorem own_newarr (X : Stand p l e R s m args below meth c T locs cells slots) (hx : p.tables.exec = Jvm.exec) (hZ : Z.Warmed39 s.vm) {aty : ArrayType} (w : (Jvm.Cond.arrayClass (newarray.typeOf aty)).before a0 Z = true) (eT : T.heap = h) {pc : Nat} {Ls : Array Slot} (hd : decode c.code pc = .ok (.newarray aty, 2)) {n : Int32} {rest : List Value}
    (hn : 0 ≤ n.toInt) {cap : Nat} (hcap : n.toInt ≤ cap) (hb : cap * 8 ≤ 536870912) (hc : cells + 1 ≤ R.cells) (hl : slots + cap ≤ R.slots) (hf : fits (newarray.typeOf aty) (defaultValue (newarray.typeOf aty)) = true)
    (k : ∀ (T' : State) (h' : Heap) (a : Addr), a = h.size → Stand p l e R s m args below meth c T' locs (cells + 1) (slots + cap) → T'.heap = h' → Ext h h' → own_A Z h' a (newarray.typeOf aty) n (fun _ => defaultValue (newarray.typeOf aty)) → Go p e below s kc ks Q T' (mkF m (pc + 2) Ls (.ref a :: rest))) :
    Go p e below s kc ks Q T (mkF m pc Ls (.int n :: rest)) := by
  obtain ⟨T', h', cA, X', e', E', A', st⟩ := newP X hx hZ w eT (g := mkF m pc Ls (.int n :: rest)) rfl hd rfl (own_nneg hn) (cap := cap) (by rw [own_cl]; omega) hb hc hl
  exact own_st st (k T' h' _ rfl X' e' E' (own_A.new A' hn hf))
theorem own_alen (X : Stand p l e R s m args below meth c T locs cells slots) (hx : p.tables.exec = Jvm.exec) (hZ : Z.Warmed39 s.vm) (eT : T.heap = h) {a : Addr} {ty : FieldType} {n : Int32} {f : Nat → Value} (A : own_A Z h a ty n f) {pc : Nat} {Ls : Array Slot} {rest : List Value} (hd : decode c.code pc = .ok (.arraylength, 1))
    (k : Go p e below s kc ks Q T (mkF m (pc + 1) Ls (.int n :: rest))) : Go p e below s kc ks Q T (mkF m pc Ls (.ref a :: rest)) := by
  obtain ⟨cl, Ar, hs, h0, -, -⟩ := A
  rw [← len_of hs (own_nneg h0)] at k
  exact own_st (fun t q => X.arraylength hx (by rw [eT]; exact Ar.1) (State.isArrayOf_alike hZ.alike Ar.2.1) (g := mkF m pc Ls (.ref a :: rest)) rfl rfl hd t q) k
theorem own_iaload (X : Stand p l e R s m args below meth c T locs cells slots) (hx : p.tables.exec = Jvm.exec) (hZ : Z.Warmed39 s.vm) (eT : T.heap = h) {a : Addr} {n j : Int32} {f : Nat → Value} {v : Value} (A : own_A Z h a .int n f) (h0 : 0 ≤ j.toInt) (h1 : j.toInt < n.toInt) (hv : f j.toInt.toNat = v) {pc : Nat} {Ls : Array Slot} {rest : List Value} (hd : decode c.code pc = .ok (.iaload, 1))
    (k : Go p e below s kc ks Q T (mkF m (pc + 1) Ls (v :: rest))) : Go p e below s kc ks Q T (mkF m pc Ls (.int j :: .ref a :: rest)) := by
  obtain ⟨cl, Ar, hs, hn, H, -⟩ := A
  exact own_st (fun t q => X.iaload hx (j := j) (v := v) (by rw [eT]; exact Ar.1) (State.isArrayOf_alike hZ.alike Ar.2.1) Ar.2.2 (own_in hs h0 h1) (hv ▸ H _ (own_ilt hs h0 h1)) (g := mkF m pc Ls (.int j :: .ref a :: rest)) rfl rfl hd t q) k
theorem own_laload (X : Stand p l e R s m args below meth c T locs cells slots) (hx : p.tables.exec = Jvm.exec) (hZ : Z.Warmed39 s.vm) (eT : T.heap = h) {a : Addr} {n j : Int32} {f : Nat → Value} {v : Value} (A : own_A Z h a .long n f) (h0 : 0 ≤ j.toInt) (h1 : j.toInt < n.toInt) (hv : f j.toInt.toNat = v) {pc : Nat} {Ls : Array Slot} {rest : List Value} (hd : decode c.code pc = .ok (.laload, 1))
    (k : Go p e below s kc ks Q T (mkF m (pc + 1) Ls (v :: rest))) : Go p e below s kc ks Q T (mkF m pc Ls (.int j :: .ref a :: rest)) := by
  obtain ⟨cl, Ar, hs, hn, H, -⟩ := A
  exact own_st (fun t q => X.laload hx (j := j) (v := v) (by rw [eT]; exact Ar.1) (State.isArrayOf_alike hZ.alike Ar.2.1) Ar.2.2 (own_in hs h0 h1) (hv ▸ H _ (own_ilt hs h0 h1)) (g := mkF m pc Ls (.int j :: .ref a :: rest)) rfl rfl hd t q) k
theorem own_caload (X : Stand p l e R s m args below meth c T locs cells slots) (hx : p.tables.exec = Jvm.exec) (hZ : Z.Warmed39 s.vm) (eT : T.heap = h) {a : Addr} {n j : Int32} {f : Nat → Value} {v : Value} (A : own_A Z h a .char n f) (h0 : 0 ≤ j.toInt) (h1 : j.toInt < n.toInt) (hv : f j.toInt.toNat = v) {pc : Nat} {Ls : Array Slot} {rest : List Value} (hd : decode c.code pc = .ok (.caload, 1))
    (k : Go p e below s kc ks Q T (mkF m (pc + 1) Ls (v :: rest))) : Go p e below s kc ks Q T (mkF m pc Ls (.int j :: .ref a :: rest)) := by
  obtain ⟨cl, Ar, hs, hn, H, -⟩ := A
  exact own_st (fun t q => X.caload hx (j := j) (v := v) (by rw [eT]; exact Ar.1) (State.isArrayOf_alike hZ.alike Ar.2.1) Ar.2.2 (own_in hs h0 h1) (hv ▸ H _ (own_ilt hs h0 h1)) (g := mkF m pc Ls (.int j :: .ref a :: rest)) rfl rfl hd t q) k
theorem own_baload (X : Stand p l e R s m args below meth c T locs cells slots) (hx : p.tables.exec = Jvm.exec) (hZ : Z.Warmed39 s.vm) (eT : T.heap = h) {a : Addr} {n j : Int32} {f : Nat → Value} {v : Value} (A : own_A Z h a .byte n f) (h0 : 0 ≤ j.toInt) (h1 : j.toInt < n.toInt) (hv : f j.toInt.toNat = v) {pc : Nat} {Ls : Array Slot} {rest : List Value} (hd : decode c.code pc = .ok (.baload, 1))
    (k : Go p e below s kc ks Q T (mkF m (pc + 1) Ls (v :: rest))) : Go p e below s kc ks Q T (mkF m pc Ls (.int j :: .ref a :: rest)) := by
  obtain ⟨cl, Ar, hs, hn, H, -⟩ := A
  exact own_st (fun t q => X.baloadBytes hx (j := j) (v := v) (by rw [eT]; exact Ar.1) (State.isArrayOf_alike hZ.alike Ar.2.1) Ar.2.2 (own_in hs h0 h1) (hv ▸ H _ (own_ilt hs h0 h1)) (g := mkF m pc Ls (.int j :: .ref a :: rest)) rfl rfl hd t q) k
theorem own_zaload (X : Stand p l e R s m args below meth c T locs cells slots) (hx : p.tables.exec = Jvm.exec) (hZ : Z.Warmed39 s.vm) (eT : T.heap = h) {a : Addr} {n j : Int32} {f : Nat → Value} {v : Value} (A : own_A Z h a .boolean n f) (h0 : 0 ≤ j.toInt) (h1 : j.toInt < n.toInt) (hv : f j.toInt.toNat = v) {pc : Nat} {Ls : Array Slot} {rest : List Value} (hd : decode c.code pc = .ok (.baload, 1))
    (k : Go p e below s kc ks Q T (mkF m (pc + 1) Ls (v :: rest))) : Go p e below s kc ks Q T (mkF m pc Ls (.int j :: .ref a :: rest)) := by
  obtain ⟨cl, Ar, hs, hn, H, -⟩ := A
  exact own_st (fun t q => X.baloadBooleans hx (j := j) (v := v) (by rw [eT]; exact Ar.1) (State.isArrayOf_alike hZ.alike Ar.2.1) Ar.2.2 (own_in hs h0 h1) (hv ▸ H _ (own_ilt hs h0 h1)) (g := mkF m pc Ls (.int j :: .ref a :: rest)) rfl rfl hd t q) k
theorem own_aaload (X : Stand p l e R s m args below meth c T locs cells slots) (hx : p.tables.exec = Jvm.exec) (hZ : Z.Warmed39 s.vm) (eT : T.heap = h) {a : Addr} {ty : FieldType} {n j : Int32} {f : Nat → Value} {v : Value} (A : own_A Z h a ty n f) (hty : ty.isReference = true) (h0 : 0 ≤ j.toInt) (h1 : j.toInt < n.toInt) (hv : f j.toInt.toNat = v) {pc : Nat} {Ls : Array Slot} {rest : List Value} (hd : decode c.code pc = .ok (.aaload, 1))
    (k : Go p e below s kc ks Q T (mkF m (pc + 1) Ls (v :: rest))) : Go p e below s kc ks Q T (mkF m pc Ls (.int j :: .ref a :: rest)) := by
  obtain ⟨cl, Ar, hs, hn, H, -⟩ := A
  exact own_st (fun t q => X.aaload hx (j := j) (v := v) (by rw [eT]; exact Ar.1) (State.isArrayOf_alike hZ.alike Ar.2.1) hty Ar.2.2 (own_in hs h0 h1) (hv ▸ H _ (own_ilt hs h0 h1)) (g := mkF m pc Ls (.int j :: .ref a :: rest)) rfl rfl hd t q) k
theorem own_iastore (X : Stand p l e R s m args below meth c T locs cells slots) (hx : p.tables.exec = Jvm.exec) (hZ : Z.Warmed39 s.vm) (eT : T.heap = h) {a : Addr} {n j : Int32} {f : Nat → Value} {x : Int32} (A : own_A Z h a .int n f) (h0 : 0 ≤ j.toInt) (h1 : j.toInt < n.toInt) {pc : Nat} {Ls : Array Slot} {rest : List Value} (hd : decode c.code pc = .ok (.iastore, 1))
    (k : ∀ (T' : State) (h' : Heap), Stand p l e R s m args below meth c T' (locs ++ [⟨a, j.toNatClampNeg⟩]) cells slots → T'.heap = h' → Wr h h' a j.toNatClampNeg (.int x) → own_A Z h' a .int n (fun i => if i = j.toInt.toNat then (.int x) else f i) → Go p e below s kc ks Q T' (mkF m (pc + 1) Ls rest)) : Go p e below s kc ks Q T (mkF m pc Ls (.int x :: .int j :: .ref a :: rest)) := by
  obtain ⟨cl, Ar, hs, hn, H, G⟩ := A
  obtain ⟨T', h', X', e', W', st⟩ := stI X hx hZ eT Ar (j := j) (x := x) (own_in hs h0 h1) (g := mkF m pc Ls (.int x :: .int j :: .ref a :: rest)) rfl rfl hd
  exact own_st st (k T' h' X' e' W' (own_A.set Ar hs hn H G rfl W' (own_ilt hs h0 h1)))
theorem own_lastore (X : Stand p l e R s m args below meth c T locs cells slots) (hx : p.tables.exec = Jvm.exec) (hZ : Z.Warmed39 s.vm) (eT : T.heap = h) {a : Addr} {n j : Int32} {f : Nat → Value} {x : Int64} (A : own_A Z h a .long n f) (h0 : 0 ≤ j.toInt) (h1 : j.toInt < n.toInt) {pc : Nat} {Ls : Array Slot} {rest : List Value} (hd : decode c.code pc = .ok (.lastore, 1))
    (k : ∀ (T' : State) (h' : Heap), Stand p l e R s m args below meth c T' (locs ++ [⟨a, j.toNatClampNeg⟩]) cells slots → T'.heap = h' → Wr h h' a j.toNatClampNeg (.long x) → own_A Z h' a .long n (fun i => if i = j.toInt.toNat then (.long x) else f i) → Go p e below s kc ks Q T' (mkF m (pc + 1) Ls rest)) : Go p e below s kc ks Q T (mkF m pc Ls (.long x :: .int j :: .ref a :: rest)) := by
  obtain ⟨cl, Ar, hs, hn, H, G⟩ := A
  obtain ⟨T', h', X', e', W', st⟩ := stJ X hx hZ eT Ar (j := j) (x := x) (own_in hs h0 h1) (g := mkF m pc Ls (.long x :: .int j :: .ref a :: rest)) rfl rfl hd
  exact own_st st (k T' h' X' e' W' (own_A.set Ar hs hn H G rfl W' (own_ilt hs h0 h1)))
theorem own_bastore (X : Stand p l e R s m args below meth c T locs cells slots) (hx : p.tables.exec = Jvm.exec) (hZ : Z.Warmed39 s.vm) (eT : T.heap = h) {a : Addr} {n j : Int32} {f : Nat → Value} {x : Int32} (A : own_A Z h a .byte n f) (h0 : 0 ≤ j.toInt) (h1 : j.toInt < n.toInt) {pc : Nat} {Ls : Array Slot} {rest : List Value} (hd : decode c.code pc = .ok (.bastore, 1))
    (k : ∀ (T' : State) (h' : Heap), Stand p l e R s m args below meth c T' (locs ++ [⟨a, j.toNatClampNeg⟩]) cells slots → T'.heap = h' → Wr h h' a j.toNatClampNeg (.int (nar .byte x)) → own_A Z h' a .byte n (fun i => if i = j.toInt.toNat then (.int (nar .byte x)) else f i) → Go p e below s kc ks Q T' (mkF m (pc + 1) Ls rest)) : Go p e below s kc ks Q T (mkF m pc Ls (.int x :: .int j :: .ref a :: rest)) := by
  obtain ⟨cl, Ar, hs, hn, H, G⟩ := A
  obtain ⟨T', h', X', e', W', st⟩ := stB X hx hZ eT Ar (j := j) (x := x) (own_in hs h0 h1) (g := mkF m pc Ls (.int x :: .int j :: .ref a :: rest)) rfl rfl hd
  exact own_st st (k T' h' X' e' W' (own_A.set Ar hs hn H G (fits_nar_byte x) W' (own_ilt hs h0 h1)))
theorem own_castore (X : Stand p l e R s m args below meth c T locs cells slots) (hx : p.tables.exec = Jvm.exec) (hZ : Z.Warmed39 s.vm) (eT : T.heap = h) {a : Addr} {n j : Int32} {f : Nat → Value} {x : Int32} (A : own_A Z h a .char n f) (h0 : 0 ≤ j.toInt) (h1 : j.toInt < n.toInt) {pc : Nat} {Ls : Array Slot} {rest : List Value} (hd : decode c.code pc = .ok (.castore, 1))
    (k : ∀ (T' : State) (h' : Heap), Stand p l e R s m args below meth c T' (locs ++ [⟨a, j.toNatClampNeg⟩]) cells slots → T'.heap = h' → Wr h h' a j.toNatClampNeg (.int (nar .char x)) → own_A Z h' a .char n (fun i => if i = j.toInt.toNat then (.int (nar .char x)) else f i) → Go p e below s kc ks Q T' (mkF m (pc + 1) Ls rest)) : Go p e below s kc ks Q T (mkF m pc Ls (.int x :: .int j :: .ref a :: rest)) := by
  obtain ⟨cl, Ar, hs, hn, H, G⟩ := A
  obtain ⟨T', h', X', e', W', st⟩ := stC X hx hZ eT Ar (j := j) (x := x) (own_in hs h0 h1) (g := mkF m pc Ls (.int x :: .int j :: .ref a :: rest)) rfl rfl hd
  exact own_st st (k T' h' X' e' W' (own_A.set Ar hs hn H G (fits_nar_char x) W' (own_ilt hs h0 h1)))
theorem own_zastore (X : Stand p l e R s m args below meth c T locs cells slots) (hx : p.tables.exec = Jvm.exec) (hZ : Z.Warmed39 s.vm) (eT : T.heap = h) {a : Addr} {n j : Int32} {f : Nat → Value} {x : Int32} (A : own_A Z h a .boolean n f) (h0 : 0 ≤ j.toInt) (h1 : j.toInt < n.toInt) {pc : Nat} {Ls : Array Slot} {rest : List Value} (hd : decode c.code pc = .ok (.bastore, 1))
    (k : ∀ (T' : State) (h' : Heap), Stand p l e R s m args below meth c T' (locs ++ [⟨a, j.toNatClampNeg⟩]) cells slots → T'.heap = h' → Wr h h' a j.toNatClampNeg (.int (nar .boolean x)) → own_A Z h' a .boolean n (fun i => if i = j.toInt.toNat then (.int (nar .boolean x)) else f i) → Go p e below s kc ks Q T' (mkF m (pc + 1) Ls rest)) : Go p e below s kc ks Q T (mkF m pc Ls (.int x :: .int j :: .ref a :: rest)) := by
  obtain ⟨cl, Ar, hs, hn, H, G⟩ := A
  obtain ⟨T', h', X', e', W', st⟩ := stZ X hx hZ eT Ar (j := j) (x := x) (own_in hs h0 h1) (g := mkF m pc Ls (.int x :: .int j :: .ref a :: rest)) rfl rfl hd
  exact own_st st (k T' h' X' e' W' (own_A.set Ar hs hn H G (fits_nar_bool x) W' (own_ilt hs h0 h1)))
theorem own_eqv {args : Array Value} {s : State} {t : Term} {k : Int32} (h : (Jvm.Cond.eq t (.int k)).value args s none s [] = some true) : t.eval args s none [] s = some (.int k) := by
  simp only [Cond.value, Term.eval] at h
  cases e : t.eval args s none [] s with
  | none => simp [e] at h
  | some v => cases v <;> simp [e] at h; exact congrArg _ (congrArg _ h)
theorem own_fldeq {args : Array Value} {s : State} {t : Term} {x : Addr} {C n d : String} {k : Int32} (ht : t.eval args s none [] s = some (.ref x)) (h : (Jvm.Cond.eq (.field t C n d) (.int k)).value args s none s [] = some true) : Fld s s.heap x C n d (.int k) :=
  Fld.start ((fld_at ht).symm.trans (own_eqv h))
/-- the array at a is one of C's -/
def own_O (Z : State) (h : Heap) (a : Addr) (C : String) : Prop := ∃ cl : Cell, h[a]? = some cl ∧ Ovr Z cl.cls C
theorem own_O.ext {h h' : Heap} {a : Addr} {C : String} (F : own_O Z h a C) (E : Ext h h') : own_O Z h' a C := by obtain ⟨c, A, r⟩ := F; exact ⟨c, E.2 _ _ A, r⟩
theorem own_O.wr {h h' : Heap} {a b : Addr} {C : String} {sl : Nat} {v : Value} (F : own_O Z h a C) (W : Wr h h' b sl v) : own_O Z h' a C := by
  obtain ⟨c, A, r⟩ := F
  obtain ⟨c', e1, e2, -⟩ := wr_at W A
  exact ⟨c', e1, by rw [e2]; exact r⟩
theorem own_newarrR (X : Stand p l e R s m args below meth c T locs cells slots) (hx : p.tables.exec = Jvm.exec) (hZ : Z.Warmed39 s.vm) {own C : String} {index : Nat} (hown : s.vm.findClass own = some m.cls) (w1 : (Jvm.Cond.classLink own index C).before a0 Z = true) (w2 : (Jvm.Cond.arrayOver (.object C)).before a0 Z = true) (eT : T.heap = h) {pc : Nat} {Ls : Array Slot} (hd : decode c.code pc = .ok (.anewarray index, 3)) {n : Int32} {rest : List Value}
    (hn : 0 ≤ n.toInt) {cap : Nat} (hcap : n.toInt ≤ cap) (hb : cap * 8 ≤ 536870912) (hc : cells + 1 ≤ R.cells) (hl : slots + cap ≤ R.slots)
    (k : ∀ (T' : State) (h' : Heap) (a : Addr), a = h.size → Stand p l e R s m args below meth c T' locs (cells + 1) (slots + cap) → T'.heap = h' → Ext h h' → own_A Z h' a (.object C) n (fun _ => .null) → own_O Z h' a C → Go p e below s kc ks Q T' (mkF m (pc + 3) Ls (.ref a :: rest))) :
    Go p e below s kc ks Q T (mkF m pc Ls (.int n :: rest)) := by
  obtain ⟨T', h', cA, X', e', E', A', O', st⟩ := newR X hx hZ hown w1 w2 eT (g := mkF m pc Ls (.int n :: rest)) rfl hd rfl (own_nneg hn) (cap := cap) (by rw [own_cl]; omega) hb hc hl
  exact own_st st (k T' h' _ rfl X' e' E' (own_A.new A' hn rfl) ⟨_, A'.1, O'⟩)
theorem own_aastore (X : Stand p l e R s m args below meth c T locs cells slots) (hx : p.tables.exec = Jvm.exec) (hZ : Z.Warmed39 s.vm) (eT : T.heap = h) {a y : Addr} {n j : Int32} {f : Nat → Value} {C : String} (A : own_A Z h a (.object C) n f) (O : own_O Z h a C) (I : Ins Z h y C true) (h0 : 0 ≤ j.toInt) (h1 : j.toInt < n.toInt) {pc : Nat} {Ls : Array Slot} {rest : List Value} (hd : decode c.code pc = .ok (.aastore, 1))
    (k : ∀ (T' : State) (h' : Heap), Stand p l e R s m args below meth c T' (locs ++ [⟨a, j.toNatClampNeg⟩]) cells slots → T'.heap = h' → Wr h h' a j.toNatClampNeg (.ref y) → own_A Z h' a (.object C) n (fun i => if i = j.toInt.toNat then .ref y else f i) → Go p e below s kc ks Q T' (mkF m (pc + 1) Ls rest)) : Go p e below s kc ks Q T (mkF m pc Ls (.ref y :: .int j :: .ref a :: rest)) := by
  obtain ⟨cl, Ar, hs, hn, H, G⟩ := A
  obtain ⟨cl', o1, o2⟩ := O
  cases Ar.1.symm.trans o1
  obtain ⟨T', h', X', e', W', st⟩ := stR X hx hZ eT Ar (j := j) (v := .ref y) (own_in hs h0 h1) rfl (Sto.of Ar o2 I) (g := mkF m pc Ls (.ref y :: .int j :: .ref a :: rest)) rfl rfl hd
  exact own_st st (k T' h' X' e' W' (own_A.set Ar hs hn H G rfl W' (own_ilt hs h0 h1)))
theorem own_sk0 {h h' : Heap} {C n d : String} {v : Value} (F : Sta Z h C n d v) (K : Keep h h' []) : Sta Z h' C n d v := by
  obtain ⟨cf, i, k, f, st, cell, h1, h2, h3, h4, h5, r⟩ := F
  exact ⟨cf, i, k, f, st, cell, h1, h2, h3, h4, K.2.1 _ _ h5 nin0, r⟩
theorem own_sk1 {h h' : Heap} {a : Addr} {C n d D : String} {v : Value} (F : Sta Z h C n d v) (K : Keep h h' [a]) (E : Exa Z h a D) : Sta Z h' C n d v := by
  obtain ⟨cf, i, k, f, st, cell, h1, h2, h3, h4, h5, h6, h7⟩ := F
  obtain ⟨c2, k2, e1, e2, e3, e4, e5⟩ := E
  have ne : st ≠ a := fun q => by
    subst q
    cases h5.symm.trans e1
    rw [e4] at h6; cases h6
  exact ⟨cf, i, k, f, st, cell, h1, h2, h3, h4, K.2.1 _ _ h5 (ninS ne nin0), h6, h7⟩
/-- each of the first n places holds an object of class D -/
def own_IC (Z : State) (h : Heap) (D : String) (n : Nat) (f : Nat → Value) : Prop := ∀ i, i < n → ∃ b : Addr, f i = .ref b ∧ Exa Z h b D
theorem own_IC.ext {h h' : Heap} {D : String} {n : Nat} {f : Nat → Value} (F : own_IC Z h D n f) (E : Ext h h') : own_IC Z h' D n f := fun i hi => by obtain ⟨b, e1, e2⟩ := F i hi; exact ⟨b, e1, e2.ext E⟩
theorem own_IC.wr {h h' : Heap} {D : String} {n : Nat} {f : Nat → Value} {a : Addr} {sl : Nat} {v : Value} (F : own_IC Z h D n f) (W : Wr h h' a sl v) : own_IC Z h' D n f := fun i hi => by obtain ⟨b, e1, e2⟩ := F i hi; exact ⟨b, e1, Exa.wr W e2⟩
theorem own_IC.keep {h h' : Heap} {D : String} {n : Nat} {f : Nat → Value} {ws : List Addr} (F : own_IC Z h D n f) (K : Keep h h' ws) : own_IC Z h' D n f := fun i hi => by obtain ⟨b, e1, e2⟩ := F i hi; exact ⟨b, e1, e2.keep K⟩
/-- an object of class D is no K -/
theorem own_notIns {h : Heap} {b : Addr} {D K : String} {t : List String} {kk : Nat} (E : Exa Z h b D) (hw : ∀ w ∈ Cond.chainWords (D :: t), w.before a0 Z = true) (wi : (Jvm.Cond.instantiable K kk).before a0 Z = true) (hn : K ∉ D :: t) : Ins Z h b K false := by
  obtain ⟨cell, k, e1, e2, e3, e4, e5⟩ := E
  obtain ⟨cK, kK, i1, i2, i3, i4⟩ := Cond.instantiable_spec wi
  refine ⟨cell, cK, e1, i1, ?_⟩
  rw [Vm.notAssignable_of_chain e2 i1 i2 i3 (by simpa using (Bool.or_eq_false_iff.mp i4.1).1) hw hn]
  simp
theorem own_cache {s : State} {args : Array Value} {t : Term} {a : Addr} {K : String} {B : Jvm.Cond} (et : ∀ idx, t.eval args s none idx s = some (.ref a)) (hA : (Jvm.Cond.arrayOf t (.object K)).value args s none s [] = some true) (hL : (Jvm.Cond.eq (.length t) (.int 256)).value args s none s [] = some true)
    (h : (Jvm.Cond.all t (.and (.exactly (.elem t (.index 0)) K) B)).value args s none s [] = some true) : ∃ fc, own_A s s.heap a (.object K) 256 fc ∧ own_IC s s.heap K 256 fc := by
  obtain ⟨cl, A⟩ := Arr.start (et []) hA
  have ha := A.fin (Vm.Alike.refl _)
  have hl := own_eqv hL
  have hsz : cl.slots.size = 256 := by
    by_cases q : cl.slots.size < 2 ^ 31
    · rw [len_f (et []) ha q] at hl
      have e := congrArg Int32.toInt (Value.int.inj (Option.some.inj hl))
      rw [len_toInt q] at e
      have k : (256 : Int32).toInt = 256 := rfl
      omega
    · simp [Term.eval, et [], ha, q] at hl
  have hel : ∀ i, i < cl.slots.size → ∃ b : Addr, cl.slots[i]? = some (.ref b) ∧ Exa s s.heap b K := fun i hi => by
    have hj : ¬ i.toInt32 < 0 := fun z => (idx_in hi (by omega)) (Or.inl z)
    have hc : i.toInt32.toNatClampNeg = i := by
      rw [own_cl, len_toInt (by omega)]; rfl
    obtain ⟨u1, u2⟩ := and_e (Cond.all_elim (et []) ha h i hi)
    obtain ⟨b, eb⟩ := exa_v u1
    refine ⟨b, ?_, exa_at eb u1⟩
    have q := (elem_f (idx := [i]) (a := .index 0) (j := i.toInt32) (et _) (by have := idx_at (args := args) (s := s) (first := s) (o := none) hj; rwa [hc] at this) ha hj).symm.trans eb
    rwa [hc] at q
  refine ⟨fun i => (cl.slots[i]?).getD .null, ⟨cl, A, by rw [hsz]; rfl, by decide, fun i hi => ?_, fun i hi => ?_⟩, fun i hi => ?_⟩
  · obtain ⟨b, e, -⟩ := hel i hi; simp [e]
  · obtain ⟨b, e, -⟩ := hel i hi; simp [e, fits]
  · obtain ⟨b, e, E⟩ := hel i (by omega); exact ⟨b, by simp [e], E⟩
end OwnKit
theorem d1_0 : decode prog_24_method_1_code 0 = .ok (.aload_n 0, 1) := by decide +kernel
theorem d1_1 : decode prog_24_method_1_code 1 = .ok (.invokespecial 1, 3) := by decide +kernel
theorem d1_4 : decode prog_24_method_1_code 4 = .ok (.lload_n 1, 1) := by decide +kernel
theorem d1_5 : decode prog_24_method_1_code 5 = .ok (.lconst 0, 1) := by decide +kernel
theorem d1_6 : decode prog_24_method_1_code 6 = .ok (.lcmp, 1) := by decide +kernel
theorem d1_7 : decode prog_24_method_1_code 7 = .ok (.ifCond .lt 7, 3) := by decide +kernel
theorem d1_10 : decode prog_24_method_1_code 10 = .ok (.iload_n 3, 1) := by decide +kernel
theorem d1_11 : decode prog_24_method_1_code 11 = .ok (.ifCond .ge 18, 3) := by decide +kernel
theorem d1_29 : decode prog_24_method_1_code 29 = .ok (.aload_n 0, 1) := by decide +kernel
theorem d1_30 : decode prog_24_method_1_code 30 = .ok (.lload_n 1, 1) := by decide +kernel
theorem d1_31 : decode prog_24_method_1_code 31 = .ok (.putfield 16, 3) := by decide +kernel
theorem d1_34 : decode prog_24_method_1_code 34 = .ok (.aload_n 0, 1) := by decide +kernel
theorem d1_35 : decode prog_24_method_1_code 35 = .ok (.iload_n 3, 1) := by decide +kernel
theorem d1_36 : decode prog_24_method_1_code 36 = .ok (.putfield 22, 3) := by decide +kernel
theorem d1_39 : decode prog_24_method_1_code 39 = .ok (.return_, 1) := by decide +kernel
theorem pn_0 : plainName "com/example/timed_net_processes/timednetprocesses/Step" = true := by first | (simp [plainName, overriddenIn]; done) | decide +kernel
theorem ef_init (m : MethodId) (a : Addr) (u0 : Int64) (u1 : Int32) : entryFrame m #[(.ref a), (.long u0), (.int u1)] 4 = mkF m 0 #[.val (.ref a), .val (.long u0), .second, .val (.int u1)] [] := by first | (simp [entryFrame, mkF, argsToLocals, Value.category, maxLocals]; done) | rfl
def Q_init (Z : State) (a : Addr) (u0 : Int64) (u1 : Int32) (h0 : Heap) (n0 : Nat) : Option Value → Heap → List Loc → Prop := fun v h L => v = none ∧ Fr n0 L ∧ Keep h0 h [a] ∧ Fld Z h a "com/example/timed_net_processes/timednetprocesses/Step" "delay" "J" (.long u0) ∧ Fld Z h a "com/example/timed_net_processes/timednetprocesses/Step" "transition" "I" (.int u1)
set_option maxRecDepth 65536 in
set_option maxHeartbeats 40000000 in
theorem rm_init (l : Launch) (Z : State) (a0 : Array Value) (hw : ∀ d ∈ tables_1, d.before a0 Z = true) (ws : List Jvm.Cond) (a : Addr) (u0 : Int64) (u1 : Int32) (h0 : Heap) (n0 : Nat) (Z0 : n0 ≤ h0.size) (F_0 : Fld Z h0 a "com/example/timed_net_processes/timednetprocesses/Step" "delay" "J" (.long 0)) (F_1 : Fld Z h0 a "com/example/timed_net_processes/timednetprocesses/Step" "transition" "I" (.int 0)) (E0 : Exa Z h0 a "com/example/timed_net_processes/timednetprocesses/Step") (ge_a : n0 ≤ a) (hu0 : 0 ≤ u0.toInt) (hu1 : 0 ≤ u1.toInt) :
    MetFree l (⟨"com/example/timed_net_processes/timednetprocesses/Step", "<init>", "(JI)V"⟩ : MethodName) (head1 (Jvm.Cond.code (⟨"com/example/timed_net_processes/timednetprocesses/Step", "<init>", "(JI)V"⟩ : MethodName) prog_24_method_1_code 4 none :: ws) ({ frames := 1, cells := 0, slots := 0, locals := 12 } : Room)) (fun aX U => aX = #[(.ref a), (.long u0), (.int u1)] ∧ Z.Warmed39 U.vm ∧ U.heap = h0) (fun _ _ _ _ _ => True) (fun _ U o U' => ∃ v L, o = .returned v ∧ (Q_init Z a u0 u1 h0 n0) v U'.heap L ∧ FrameEnd U o U' L ({ frames := 1, cells := 0, slots := 0, locals := 12 } : Room).cells ({ frames := 1, cells := 0, slots := 0, locals := 12 } : Room).slots) := by
  refine own_met (Q := (Q_init Z a u0 u1 h0 n0)) (plainFor_of_name (x := (⟨"com/example/timed_net_processes/timednetprocesses/Step", "<init>", "(JI)V"⟩ : MethodName)) pn_0) (fun m => ef_init m a u0 u1) ?_
  intro p e s m below meth cD s₁ hx hby hml hret hlk hZ hown hnm X0 e0 hs0
  have hown : s.vm.findClass "com/example/timed_net_processes/timednetprocesses/Step" = some m.cls := hown
  have N0 := Fr.nil n0
  refine own_st (fr' := (mkF m 1 #[.val (.ref a), .val (.long u0), .second, .val (.int u1)] [(.ref a)])) (fun t k => XS.aloadN X0.here hx rfl (hb hby d1_0) rfl rfl k) ?_
  obtain ⟨T1, X1, e1, st1⟩ := initO X0 hx hZ hown (hw _ (List.mem_of_getElem? (i := 8) rfl)) (hw _ (List.mem_of_getElem? (i := 9) rfl)) (hw _ (List.mem_of_getElem? (i := 10) rfl)) e0 (g := (mkF m 1 #[.val (.ref a), .val (.long u0), .second, .val (.int u1)] [(.ref a)])) rfl (by rw [hml]; rfl) rfl (hb hby d1_1) (by decide) (W := 0) (by show 2 * 0 + _ ≤ _; exact Nat.le_of_eq rfl) (by decide)
  refine own_st (fr' := (mkF m 4 #[.val (.ref a), .val (.long u0), .second, .val (.int u1)] [])) st1 ?_
  refine own_st (fr' := (mkF m 5 #[.val (.ref a), .val (.long u0), .second, .val (.int u1)] [(.long u0)])) (fun t k => XS.lloadN X1.here hx rfl (hb hby d1_4) rfl  k) ?_
  refine own_st (fr' := (mkF m 6 #[.val (.ref a), .val (.long u0), .second, .val (.int u1)] [(.long (0 : Int64)), (.long u0)])) (fun t k => XS.lconst X1.here hx rfl (hb hby d1_5) k) ?_
  refine own_st (fr' := (mkF m 7 #[.val (.ref a), .val (.long u0), .second, .val (.int u1)] [(.int (lcmpW u0 (0 : Int64)))])) (fun t k => XS.lcmp X1.here hx rfl (hb hby d1_6) rfl k) ?_
  refine own_st (fr' := (mkF m 10 #[.val (.ref a), .val (.long u0), .second, .val (.int u1)] [])) (fun t k => XS.ifNo X1.here hx rfl (hb hby d1_7) rfl (own_fltL (x := u0) (y := (0 : Int64)) (show ¬ u0.toInt < 0 from by omega)).1 k) ?_
  refine own_st (fr' := (mkF m 11 #[.val (.ref a), .val (.long u0), .second, .val (.int u1)] [(.int u1)])) (fun t k => XS.iloadN X1.here hx rfl (hb hby d1_10) rfl  k) ?_
  refine own_st (fr' := (mkF m 29 #[.val (.ref a), .val (.long u0), .second, .val (.int u1)] [])) (fun t k => XS.ifYes X1.here hx rfl (pc0 := 11) (pc' := 29) rfl (hb hby d1_11) rfl ((if0 _ _).trans (own_flt (x := u1) (y := (0 : Int32)) (show ¬ u1.toInt < 0 from by omega)).2.1) (by decide) (by decide) k) ?_
  refine own_st (fr' := (mkF m 30 #[.val (.ref a), .val (.long u0), .second, .val (.int u1)] [(.ref a)])) (fun t k => XS.aloadN X1.here hx rfl (hb hby d1_29) rfl rfl k) ?_
  refine own_st (fr' := (mkF m 31 #[.val (.ref a), .val (.long u0), .second, .val (.int u1)] [(.long u0), (.ref a)])) (fun t k => XS.lloadN X1.here hx rfl (hb hby d1_30) rfl  k) ?_
  obtain ⟨T2, h2, X2, e2, W2, st2⟩ := putF X1 hx hZ hown (host := "") (Or.inl (hw _ (List.mem_of_getElem? (i := 11) rfl))) Via.refl e1 F_0 E0 (Or.inr ⟨(hw _ (List.mem_of_getElem? (i := 12) rfl)), rfl, hnm⟩) (hw _ (List.mem_of_getElem? (i := 3) rfl)) (ty := .long) (by decide) (rfl) (rfl) (g := (mkF m 31 #[.val (.ref a), .val (.long u0), .second, .val (.int u1)] [(.long u0), (.ref a)])) rfl rfl (hb hby d1_31)
  have Fw2 := Fld.same W2 F_0
  have N2 := Fr.snoc X2 N0 ge_a
  refine own_st (fr' := (mkF m 34 #[.val (.ref a), .val (.long u0), .second, .val (.int u1)] [])) st2 ?_
  refine own_st (fr' := (mkF m 35 #[.val (.ref a), .val (.long u0), .second, .val (.int u1)] [(.ref a)])) (fun t k => XS.aloadN X2.here hx rfl (hb hby d1_34) rfl rfl k) ?_
  refine own_st (fr' := (mkF m 36 #[.val (.ref a), .val (.long u0), .second, .val (.int u1)] [(.int u1), (.ref a)])) (fun t k => XS.iloadN X2.here hx rfl (hb hby d1_35) rfl  k) ?_
  obtain ⟨T3, h3, X3, e3, W3, st3⟩ := putF X2 hx hZ hown (host := "") (Or.inl (hw _ (List.mem_of_getElem? (i := 13) rfl))) Via.refl e2 (Fld.other W2 F_1 (Or.inr (Jvm.RoadKit.slot_ne (C := "com/example/timed_net_processes/timednetprocesses/Step") (Or.inr (hw _ (List.mem_of_getElem? (i := 14) rfl))) (Or.inr (hw _ (List.mem_of_getElem? (i := 12) rfl))) (by decide) (t := .int) (t' := .long) (by decide) (by decide)))) (Exa.wr W2 E0) (Or.inr ⟨(hw _ (List.mem_of_getElem? (i := 14) rfl)), rfl, hnm⟩) (hw _ (List.mem_of_getElem? (i := 3) rfl)) (ty := .int) (by decide) (rfl) (rfl) (g := (mkF m 36 #[.val (.ref a), .val (.long u0), .second, .val (.int u1)] [(.int u1), (.ref a)])) rfl rfl (hb hby d1_36)
  have Fw3 := Fld.same W3 (Fld.other W2 F_1 (Or.inr (Jvm.RoadKit.slot_ne (C := "com/example/timed_net_processes/timednetprocesses/Step") (Or.inr (hw _ (List.mem_of_getElem? (i := 14) rfl))) (Or.inr (hw _ (List.mem_of_getElem? (i := 12) rfl))) (by decide) (t := .int) (t' := .long) (by decide) (by decide))))
  have N3 := Fr.snoc X3 N2 ge_a
  refine own_st (fr' := (mkF m 39 #[.val (.ref a), .val (.long u0), .second, .val (.int u1)] [])) st3 ?_
  exact own_retV X3 hx hlk hret (hb hby d1_39) (by decide) (by decide) (by rw [e3]; exact ⟨rfl, N3, (Keep.wr (Keep.wr (Keep.refl h0 [a]) W2 (Or.inl (List.mem_of_getElem? (i := 0) rfl))) W3 (Or.inl (List.mem_of_getElem? (i := 0) rfl))), (Fld.other W3 Fw2 (Or.inr (Jvm.RoadKit.slot_ne (C := "com/example/timed_net_processes/timednetprocesses/Step") (Or.inr (hw _ (List.mem_of_getElem? (i := 12) rfl))) (Or.inr (hw _ (List.mem_of_getElem? (i := 14) rfl))) (by decide) (t := .long) (t' := .int) (by decide) (by decide)))), Fw3⟩)
theorem d6_0 : decode jdk_18_method_1_code 0 = .ok (.aload_n 0, 1) := by decide +kernel
theorem d6_1 : decode jdk_18_method_1_code 1 = .ok (.invokespecial 1, 3) := by decide +kernel
theorem d6_4 : decode jdk_18_method_1_code 4 = .ok (.return_, 1) := by decide +kernel
theorem pn_1 : plainName "java/lang/Number" = true := by first | (simp [plainName, overriddenIn]; done) | decide +kernel
theorem ef_num (m : MethodId) (a : Addr) : entryFrame m #[(.ref a)] 1 = mkF m 0 #[.val (.ref a)] [] := by first | (simp [entryFrame, mkF, argsToLocals, Value.category, maxLocals]; done) | rfl
def Q_num (Z : State) (a : Addr) (h0 : Heap) (n0 : Nat) : Option Value → Heap → List Loc → Prop := fun v h L => v = none ∧ Fr n0 L ∧ h = h0
set_option maxRecDepth 65536 in
set_option maxHeartbeats 40000000 in
theorem rm_num (l : Launch) (Z : State) (a0 : Array Value) (hw : ∀ d ∈ tables_1, d.before a0 Z = true) (ws : List Jvm.Cond) (a : Addr) (h0 : Heap) (n0 : Nat) (Z0 : n0 ≤ h0.size)  :
    MetFree l (⟨"java/lang/Number", "<init>", "()V"⟩ : MethodName) (head1 (Jvm.Cond.code (⟨"java/lang/Number", "<init>", "()V"⟩ : MethodName) jdk_18_method_1_code 1 none :: ws) ({ frames := 1, cells := 0, slots := 0, locals := 12 } : Room)) (fun aX U => aX = #[(.ref a)] ∧ Z.Warmed39 U.vm ∧ U.heap = h0) (fun _ _ _ _ _ => True) (fun _ U o U' => ∃ v L, o = .returned v ∧ (Q_num Z a h0 n0) v U'.heap L ∧ FrameEnd U o U' L ({ frames := 1, cells := 0, slots := 0, locals := 12 } : Room).cells ({ frames := 1, cells := 0, slots := 0, locals := 12 } : Room).slots) := by
  refine own_met (Q := (Q_num Z a h0 n0)) (plainFor_of_name (x := (⟨"java/lang/Number", "<init>", "()V"⟩ : MethodName)) pn_1) (fun m => ef_num m a) ?_
  intro p e s m below meth cD s₁ hx hby hml hret hlk hZ hown hnm X0 e0 hs0
  have hown : s.vm.findClass "java/lang/Number" = some m.cls := hown
  have N0 := Fr.nil n0
  refine own_st (fr' := (mkF m 1 #[.val (.ref a)] [(.ref a)])) (fun t k => XS.aloadN X0.here hx rfl (hb hby d6_0) rfl rfl k) ?_
  obtain ⟨T4, X4, e4, st4⟩ := initO X0 hx hZ hown (hw _ (List.mem_of_getElem? (i := 40) rfl)) (hw _ (List.mem_of_getElem? (i := 9) rfl)) (hw _ (List.mem_of_getElem? (i := 10) rfl)) e0 (g := (mkF m 1 #[.val (.ref a)] [(.ref a)])) rfl (by rw [hml]; rfl) rfl (hb hby d6_1) (by decide) (W := 0) (by show 2 * 0 + _ ≤ _; exact Nat.le_of_eq rfl) (by decide)
  refine own_st (fr' := (mkF m 4 #[.val (.ref a)] [])) st4 ?_
  exact own_retV X4 hx hlk hret (hb hby d6_4) (by decide) (by decide) (⟨rfl, N0, e4⟩)
theorem pd_0 : parseMethodDescriptor "()V" = some ⟨[], none⟩ := by decide +kernel
theorem d8_0 : decode jdk_33_method_23_code 0 = .ok (.aload_n 0, 1) := by decide +kernel
theorem d8_1 : decode jdk_33_method_23_code 1 = .ok (.invokespecial 202, 3) := by decide +kernel
theorem d8_4 : decode jdk_33_method_23_code 4 = .ok (.aload_n 0, 1) := by decide +kernel
theorem d8_5 : decode jdk_33_method_23_code 5 = .ok (.iload_n 1, 1) := by decide +kernel
theorem d8_6 : decode jdk_33_method_23_code 6 = .ok (.putfield 205, 3) := by decide +kernel
theorem d8_9 : decode jdk_33_method_23_code 9 = .ok (.return_, 1) := by decide +kernel
theorem pn_2 : plainName "java/lang/Integer" = true := by first | (simp [plainName, overriddenIn]; done) | decide +kernel
theorem ef_biInteger (m : MethodId) (a : Addr) (q : Int32) : entryFrame m #[(.ref a), (.int q)] 2 = mkF m 0 #[.val (.ref a), .val (.int q)] [] := by first | (simp [entryFrame, mkF, argsToLocals, Value.category, maxLocals]; done) | rfl
def Q_biInteger (Z : State) (a : Addr) (q : Int32) (h0 : Heap) (n0 : Nat) : Option Value → Heap → List Loc → Prop := fun v h L => v = none ∧ Fr n0 L ∧ Keep h0 h [a]
set_option maxRecDepth 65536 in
set_option maxHeartbeats 40000000 in
theorem rm_biInteger (l : Launch) (Z : State) (a0 : Array Value) (hw : ∀ d ∈ tables_1, d.before a0 Z = true) (ws : List Jvm.Cond) (a : Addr) (q : Int32) (h0 : Heap) (n0 : Nat) (Z0 : n0 ≤ h0.size) (F0 : Fld Z h0 a "java/lang/Integer" "value" "I" (.int 0)) (E0 : Exa Z h0 a "java/lang/Integer") (ge_a : n0 ≤ a) :
    MetFree l (⟨"java/lang/Integer", "<init>", "(I)V"⟩ : MethodName) (head1 (Jvm.Cond.code (⟨"java/lang/Integer", "<init>", "(I)V"⟩ : MethodName) jdk_33_method_23_code 2 none :: ws) ({ frames := 2, cells := 0, slots := 0, locals := 24 } : Room)) (fun aX U => aX = #[(.ref a), (.int q)] ∧ Z.Warmed39 U.vm ∧ U.heap = h0) (fun _ _ _ _ _ => True) (fun _ U o U' => ∃ v L, o = .returned v ∧ (Q_biInteger Z a q h0 n0) v U'.heap L ∧ FrameEnd U o U' L ({ frames := 2, cells := 0, slots := 0, locals := 24 } : Room).cells ({ frames := 2, cells := 0, slots := 0, locals := 24 } : Room).slots) := by
  refine own_met (Q := (Q_biInteger Z a q h0 n0)) (plainFor_of_name (x := (⟨"java/lang/Integer", "<init>", "(I)V"⟩ : MethodName)) pn_2) (fun m => ef_biInteger m a q) ?_
  intro p e s m below meth cD s₁ hx hby hml hret hlk hZ hown hnm X0 e0 hs0
  have hown : s.vm.findClass "java/lang/Integer" = some m.cls := hown
  have N0 := Fr.nil n0
  refine own_st (fr' := (mkF m 1 #[.val (.ref a), .val (.int q)] [(.ref a)])) (fun t k => XS.aloadN X0.here hx rfl (hb hby d8_0) rfl rfl k) ?_
  refine own_callN X0 hx hZ (y := (⟨"java/lang/Number", "<init>", "()V"⟩ : MethodName)) hown rfl (hw _ (List.mem_of_getElem? (i := 58) rfl)) (hw _ (List.mem_of_getElem? (i := 35) rfl)) (hw _ (List.mem_of_getElem? (i := 38) rfl)) (hw _ (List.mem_of_getElem? (i := 39) rfl)) (by decide) (a := a) (argsL := []) (rest := []) (W := 0) (rm_num l Z a0 hw [] a h0 n0 Z0 ) e0 (by rw [hml]; rfl) (lenOf pd_0 rfl) rfl (Nat.le_of_eq rfl) (hb hby d8_1) (by decide) (by decide) (by decide) (by decide) ?_
  intro v5 T5 L5 X5 hQ5
  obtain ⟨rfl, Nq5, eq5⟩ := hQ5
  have N5 := Fr.app N0 Nq5
  refine own_st (fr' := (mkF m 5 #[.val (.ref a), .val (.int q)] [(.ref a)])) (fun t k => XS.aloadN X5.here hx rfl (hb hby d8_4) rfl rfl k) ?_
  refine own_st (fr' := (mkF m 6 #[.val (.ref a), .val (.int q)] [(.int q), (.ref a)])) (fun t k => XS.iloadN X5.here hx rfl (hb hby d8_5) rfl  k) ?_
  obtain ⟨T6, h6, X6, e6, W6, st6⟩ := putF X5 hx hZ hown (host := "") (Or.inl (hw _ (List.mem_of_getElem? (i := 60) rfl))) Via.refl eq5 F0 E0 (Or.inr ⟨(hw _ (List.mem_of_getElem? (i := 61) rfl)), rfl, hnm⟩) (hw _ (List.mem_of_getElem? (i := 53) rfl)) (ty := .int) (by decide) (rfl) (rfl) (g := (mkF m 6 #[.val (.ref a), .val (.int q)] [(.int q), (.ref a)])) rfl rfl (hb hby d8_6)
  have Fw6 := Fld.same W6 F0
  have N6 := Fr.snoc X6 N5 ge_a
  refine own_st (fr' := (mkF m 9 #[.val (.ref a), .val (.int q)] [])) st6 ?_
  exact own_retV X6 hx hlk hret (hb hby d8_9) (by decide) (by decide) (by rw [e6]; exact ⟨rfl, N6, (Keep.wr (Keep.refl h0 [a]) W6 (Or.inl (List.mem_of_getElem? (i := 0) rfl)))⟩)
theorem pd_1 : parseMethodDescriptor "(I)V" = some ⟨[.int], none⟩ := by decide +kernel
theorem d7_0 : decode jdk_33_method_22_code 0 = .ok (.iload_n 0, 1) := by decide +kernel
theorem d7_1 : decode jdk_33_method_22_code 1 = .ok (.bipush (-128), 2) := by decide +kernel
theorem d7_3 : decode jdk_33_method_22_code 3 = .ok (.if_icmp .lt 20, 3) := by decide +kernel
theorem d7_6 : decode jdk_33_method_22_code 6 = .ok (.iload_n 0, 1) := by decide +kernel
theorem d7_7 : decode jdk_33_method_22_code 7 = .ok (.getstatic 191, 3) := by decide +kernel
theorem d7_10 : decode jdk_33_method_22_code 10 = .ok (.if_icmp .gt 13, 3) := by decide +kernel
theorem d7_13 : decode jdk_33_method_22_code 13 = .ok (.getstatic 195, 3) := by decide +kernel
theorem d7_16 : decode jdk_33_method_22_code 16 = .ok (.iload_n 0, 1) := by decide +kernel
theorem d7_17 : decode jdk_33_method_22_code 17 = .ok (.sipush 128, 3) := by decide +kernel
theorem d7_20 : decode jdk_33_method_22_code 20 = .ok (.iadd, 1) := by decide +kernel
theorem d7_21 : decode jdk_33_method_22_code 21 = .ok (.aaload, 1) := by decide +kernel
theorem d7_22 : decode jdk_33_method_22_code 22 = .ok (.areturn, 1) := by decide +kernel
theorem d7_23 : decode jdk_33_method_22_code 23 = .ok (.new 1, 3) := by decide +kernel
theorem d7_26 : decode jdk_33_method_22_code 26 = .ok (.dup, 1) := by decide +kernel
theorem d7_27 : decode jdk_33_method_22_code 27 = .ok (.iload_n 0, 1) := by decide +kernel
theorem d7_28 : decode jdk_33_method_22_code 28 = .ok (.invokespecial 199, 3) := by decide +kernel
theorem d7_31 : decode jdk_33_method_22_code 31 = .ok (.areturn, 1) := by decide +kernel
theorem ef_voInteger (m : MethodId) (q : Int32) : entryFrame m #[(.int q)] 1 = mkF m 0 #[.val (.int q)] [] := by first | (simp [entryFrame, mkF, argsToLocals, Value.category, maxLocals]; done) | rfl
def Q_voInteger (Z : State) (q : Int32) (ca : Addr) (fc : Nat → Value) (h0 : Heap) (n0 : Nat) : Option Value → Heap → List Loc → Prop := fun v h L => (∃ b : Addr, v = some (.ref b) ∧ Exa Z h b "java/lang/Integer") ∧ Fr n0 L ∧ Keep h0 h []
set_option maxRecDepth 65536 in
set_option maxHeartbeats 40000000 in
theorem rm_voInteger (l : Launch) (Z : State) (a0 : Array Value) (hw : ∀ d ∈ tables_1, d.before a0 Z = true) (ws : List Jvm.Cond) (q : Int32) (ca : Addr) (fc : Nat → Value) (h0 : Heap) (n0 : Nat) (Z0 : n0 ≤ h0.size) (S_h : Sta Z h0 "java/lang/Integer$IntegerCache" "high" "I" (.int 127)) (S_c : Sta Z h0 "java/lang/Integer$IntegerCache" "cache" "[Ljava/lang/Integer;" (.ref ca)) (V_c : own_A Z h0 ca (.object "java/lang/Integer") 256 fc) (IC : own_IC Z h0 "java/lang/Integer" 256 fc) :
    MetFree l (⟨"java/lang/Integer", "valueOf", "(I)Ljava/lang/Integer;"⟩ : MethodName) (head1 (Jvm.Cond.code (⟨"java/lang/Integer", "valueOf", "(I)Ljava/lang/Integer;"⟩ : MethodName) jdk_33_method_22_code 1 (some (.object "java/lang/Integer")) :: ws) ({ frames := 3, cells := 1, slots := 1, locals := 38 } : Room)) (fun aX U => aX = #[(.int q)] ∧ Z.Warmed39 U.vm ∧ U.heap = h0) (fun _ _ _ _ _ => True) (fun _ U o U' => ∃ v L, o = .returned v ∧ (Q_voInteger Z q ca fc h0 n0) v U'.heap L ∧ FrameEnd U o U' L ({ frames := 3, cells := 1, slots := 1, locals := 38 } : Room).cells ({ frames := 3, cells := 1, slots := 1, locals := 38 } : Room).slots) := by
  refine own_met (Q := (Q_voInteger Z q ca fc h0 n0)) (plainFor_of_name (x := (⟨"java/lang/Integer", "valueOf", "(I)Ljava/lang/Integer;"⟩ : MethodName)) pn_2) (fun m => ef_voInteger m q) ?_
  intro p e s m below meth cD s₁ hx hby hml hret hlk hZ hown hnm X0 e0 hs0
  have hown : s.vm.findClass "java/lang/Integer" = some m.cls := hown
  have N0 := Fr.nil n0
  refine own_st (fr' := (mkF m 1 #[.val (.int q)] [(.int q)])) (fun t k => XS.iloadN X0.here hx rfl (hb hby d7_0) rfl  k) ?_
  refine own_st (fr' := (mkF m 3 #[.val (.int q)] [(.int (-128 : Int32)), (.int q)])) (fun t k => XS.bipush X0.here hx rfl (hb hby d7_1) k) ?_
  by_cases h1 : q.toInt < (-128)
  · refine own_st (fr' := (mkF m 23 #[.val (.int q)] [])) (fun t k => XS.icmpYes X0.here hx rfl (pc0 := 3) (pc' := 23) rfl (hb hby d7_3) rfl (own_tlt (x := q) (y := (-128 : Int32)) h1).1 (by decide) (by decide) k) ?_
    obtain ⟨T7, h7, X7, e7, E7, A7, D7, -, st7⟩ := newO X0 hx hZ hown (hw _ (List.mem_of_getElem? (i := 52) rfl)) (hw _ (List.mem_of_getElem? (i := 53) rfl)) (hw _ (List.mem_of_getElem? (i := 48) rfl)) e0 (g := (mkF m 23 #[.val (.int q)] [])) rfl (hb hby d7_23) (by decide) (by decide)
    obtain ⟨b7, g7⟩ : ∃ z, z = h0.size := ⟨_, rfl⟩
    rw [← g7] at A7 D7 st7
    have ne7_ca : ca ≠ b7 := Nat.ne_of_lt (Nat.lt_of_lt_of_eq V_c.lt g7.symm)
    have ge_b7 : n0 ≤ b7 := Nat.le_trans Z0 (Nat.le_of_eq g7.symm)
    have sz_b7 : h0.size ≤ b7 := Nat.le_trans (Keep.refl h0 []).1 (Nat.le_of_eq g7.symm)
    have F7_value : Fld Z h7 b7 "java/lang/Integer" "value" "I" (.int (0 : Int32)) := D7 (Or.inr (hw _ (List.mem_of_getElem? (i := 61) rfl))) (ty := .int) (by decide)
    refine own_st (fr' := (mkF m 26 #[.val (.int q)] [(.ref b7)])) st7 ?_
    refine own_st (fr' := (mkF m 27 #[.val (.int q)] [(.ref b7), (.ref b7)])) (fun t k => XS.dup X7.here hx rfl (hb hby d7_26) rfl rfl k) ?_
    refine own_st (fr' := (mkF m 28 #[.val (.int q)] [(.int q), (.ref b7), (.ref b7)])) (fun t k => XS.iloadN X7.here hx rfl (hb hby d7_27) rfl  k) ?_
    refine own_callN X7 hx hZ (y := (⟨"java/lang/Integer", "<init>", "(I)V"⟩ : MethodName)) hown rfl (hw _ (List.mem_of_getElem? (i := 54) rfl)) (hw _ (List.mem_of_getElem? (i := 55) rfl)) (hw _ (List.mem_of_getElem? (i := 48) rfl)) (hw _ (List.mem_of_getElem? (i := 57) rfl)) (by decide) (a := b7) (argsL := [(.int q)]) (rest := [(.ref b7)]) (W := 1) (rm_biInteger l Z a0 hw [] b7 q h7 n0 (Nat.le_trans Z0 E7.1) F7_value A7 ge_b7) e7 (by rw [hml]; rfl) (lenOf pd_1 rfl) rfl (Nat.le_of_eq rfl) (hb hby d7_28) (by decide) (by decide) (by decide) (by decide) ?_
    intro v8 T8 L8 X8 hQ8
    obtain ⟨rfl, Nq8, K8⟩ := hQ8
    have N8 := Fr.app N0 Nq8
    exact own_retA X8 hx hlk hret rfl rfl (hb hby d7_31) (by decide) (by decide) (⟨⟨b7, rfl, (A7.keep K8)⟩, N8, (Keep.trans (Keep.ext (Keep.refl h0 []) E7) K8 (allS (Or.inr sz_b7) all0))⟩)
  · refine own_st (fr' := (mkF m 6 #[.val (.int q)] [])) (fun t k => XS.icmpNo X0.here hx rfl (hb hby d7_3) rfl (own_flt (x := q) (y := (-128 : Int32)) h1).1 k) ?_
    refine own_st (fr' := (mkF m 7 #[.val (.int q)] [(.int q)])) (fun t k => XS.iloadN X0.here hx rfl (hb hby d7_6) rfl  k) ?_
    obtain ⟨T9, X9, e9, st9⟩ := getS2 X0 hx hZ hown (host := "") (Or.inl (hw _ (List.mem_of_getElem? (i := 50) rfl))) Via.refl e0 S_h (g := (mkF m 7 #[.val (.int q)] [(.int q)])) rfl (hb hby d7_7)
    refine own_st (fr' := (mkF m 10 #[.val (.int q)] [(.int (127 : Int32)), (.int q)])) st9 ?_
    by_cases h2 : 127 < q.toInt
    · refine own_st (fr' := (mkF m 23 #[.val (.int q)] [])) (fun t k => XS.icmpYes X9.here hx rfl (pc0 := 10) (pc' := 23) rfl (hb hby d7_10) rfl (own_tlt (x := (127 : Int32)) (y := q) h2).2.2.1 (by decide) (by decide) k) ?_
      obtain ⟨T10, h10, X10, e10, E10, A10, D10, -, st10⟩ := newO X9 hx hZ hown (hw _ (List.mem_of_getElem? (i := 52) rfl)) (hw _ (List.mem_of_getElem? (i := 53) rfl)) (hw _ (List.mem_of_getElem? (i := 48) rfl)) e9 (g := (mkF m 23 #[.val (.int q)] [])) rfl (hb hby d7_23) (by decide) (by decide)
      obtain ⟨b10, g10⟩ : ∃ z, z = h0.size := ⟨_, rfl⟩
      rw [← g10] at A10 D10 st10
      have ne10_ca : ca ≠ b10 := Nat.ne_of_lt (Nat.lt_of_lt_of_eq V_c.lt g10.symm)
      have ge_b10 : n0 ≤ b10 := Nat.le_trans Z0 (Nat.le_of_eq g10.symm)
      have sz_b10 : h0.size ≤ b10 := Nat.le_trans (Keep.refl h0 []).1 (Nat.le_of_eq g10.symm)
      have F10_value : Fld Z h10 b10 "java/lang/Integer" "value" "I" (.int (0 : Int32)) := D10 (Or.inr (hw _ (List.mem_of_getElem? (i := 61) rfl))) (ty := .int) (by decide)
      refine own_st (fr' := (mkF m 26 #[.val (.int q)] [(.ref b10)])) st10 ?_
      refine own_st (fr' := (mkF m 27 #[.val (.int q)] [(.ref b10), (.ref b10)])) (fun t k => XS.dup X10.here hx rfl (hb hby d7_26) rfl rfl k) ?_
      refine own_st (fr' := (mkF m 28 #[.val (.int q)] [(.int q), (.ref b10), (.ref b10)])) (fun t k => XS.iloadN X10.here hx rfl (hb hby d7_27) rfl  k) ?_
      refine own_callN X10 hx hZ (y := (⟨"java/lang/Integer", "<init>", "(I)V"⟩ : MethodName)) hown rfl (hw _ (List.mem_of_getElem? (i := 54) rfl)) (hw _ (List.mem_of_getElem? (i := 55) rfl)) (hw _ (List.mem_of_getElem? (i := 48) rfl)) (hw _ (List.mem_of_getElem? (i := 57) rfl)) (by decide) (a := b10) (argsL := [(.int q)]) (rest := [(.ref b10)]) (W := 1) (rm_biInteger l Z a0 hw [] b10 q h10 n0 (Nat.le_trans Z0 E10.1) F10_value A10 ge_b10) e10 (by rw [hml]; rfl) (lenOf pd_1 rfl) rfl (Nat.le_of_eq rfl) (hb hby d7_28) (by decide) (by decide) (by decide) (by decide) ?_
      intro v11 T11 L11 X11 hQ11
      obtain ⟨rfl, Nq11, K11⟩ := hQ11
      have N11 := Fr.app N0 Nq11
      exact own_retA X11 hx hlk hret rfl rfl (hb hby d7_31) (by decide) (by decide) (⟨⟨b10, rfl, (A10.keep K11)⟩, N11, (Keep.trans (Keep.ext (Keep.refl h0 []) E10) K11 (allS (Or.inr sz_b10) all0))⟩)
    · refine own_st (fr' := (mkF m 13 #[.val (.int q)] [])) (fun t k => XS.icmpNo X9.here hx rfl (hb hby d7_10) rfl (own_flt (x := (127 : Int32)) (y := q) h2).2.2.1 k) ?_
      obtain ⟨T12, X12, e12, st12⟩ := getS2 X9 hx hZ hown (host := "") (Or.inl (hw _ (List.mem_of_getElem? (i := 63) rfl))) Via.refl e9 S_c (g := (mkF m 13 #[.val (.int q)] [])) rfl (hb hby d7_13)
      refine own_st (fr' := (mkF m 16 #[.val (.int q)] [(.ref ca)])) st12 ?_
      refine own_st (fr' := (mkF m 17 #[.val (.int q)] [(.int q), (.ref ca)])) (fun t k => XS.iloadN X12.here hx rfl (hb hby d7_16) rfl  k) ?_
      refine own_st (fr' := (mkF m 20 #[.val (.int q)] [(.int (128 : Int32)), (.int q), (.ref ca)])) (fun t k => XS.sipush X12.here hx rfl (hb hby d7_17) k) ?_
      refine own_st (fr' := (mkF m 21 #[.val (.int q)] [(.int (q + (128 : Int32))), (.ref ca)])) (fun t k => XS.iadd X12.here hx rfl (hb hby d7_20) rfl k) ?_
      have q1 := c_iadd q 128
      have r1 := rng32 (q + 128)
      have k1 : (128 : Int32).toInt = 128 := rfl
      generalize (q + (128 : Int32)) = ix at q1 r1 ⊢
      have i0 : 0 ≤ ix.toInt := by omega
      have i1 : ix.toInt < (256 : Int32).toInt := by have k2 : (256 : Int32).toInt = 256 := rfl; omega
      obtain ⟨bb, eb, Eb⟩ := IC ix.toInt.toNat (by omega)
      refine own_aaload X12 hx hZ e12 V_c rfl (i0) (i1) (v := (.ref bb)) (eb) (hb hby d7_21) ?_
      exact own_retA X12 hx hlk hret rfl rfl (hb hby d7_22) (by decide) (by decide) (by rw [e12]; exact ⟨⟨bb, rfl, Eb⟩, N0, (Keep.refl h0 [])⟩)
theorem d5_0 : decode jdk_35_method_26_code 0 = .ok (.aload_n 0, 1) := by decide +kernel
theorem d5_1 : decode jdk_35_method_26_code 1 = .ok (.invokespecial 270, 3) := by decide +kernel
theorem d5_4 : decode jdk_35_method_26_code 4 = .ok (.aload_n 0, 1) := by decide +kernel
theorem d5_5 : decode jdk_35_method_26_code 5 = .ok (.lload_n 1, 1) := by decide +kernel
theorem d5_6 : decode jdk_35_method_26_code 6 = .ok (.putfield 273, 3) := by decide +kernel
theorem d5_9 : decode jdk_35_method_26_code 9 = .ok (.return_, 1) := by decide +kernel
theorem pn_3 : plainName "java/lang/Long" = true := by first | (simp [plainName, overriddenIn]; done) | decide +kernel
theorem ef_biLong (m : MethodId) (a : Addr) (q : Int64) : entryFrame m #[(.ref a), (.long q)] 3 = mkF m 0 #[.val (.ref a), .val (.long q), .second] [] := by first | (simp [entryFrame, mkF, argsToLocals, Value.category, maxLocals]; done) | rfl
def Q_biLong (Z : State) (a : Addr) (q : Int64) (h0 : Heap) (n0 : Nat) : Option Value → Heap → List Loc → Prop := fun v h L => v = none ∧ Fr n0 L ∧ Keep h0 h [a]
set_option maxRecDepth 65536 in
set_option maxHeartbeats 40000000 in
theorem rm_biLong (l : Launch) (Z : State) (a0 : Array Value) (hw : ∀ d ∈ tables_1, d.before a0 Z = true) (ws : List Jvm.Cond) (a : Addr) (q : Int64) (h0 : Heap) (n0 : Nat) (Z0 : n0 ≤ h0.size) (F0 : Fld Z h0 a "java/lang/Long" "value" "J" (.long 0)) (E0 : Exa Z h0 a "java/lang/Long") (ge_a : n0 ≤ a) :
    MetFree l (⟨"java/lang/Long", "<init>", "(J)V"⟩ : MethodName) (head1 (Jvm.Cond.code (⟨"java/lang/Long", "<init>", "(J)V"⟩ : MethodName) jdk_35_method_26_code 3 none :: ws) ({ frames := 2, cells := 0, slots := 0, locals := 24 } : Room)) (fun aX U => aX = #[(.ref a), (.long q)] ∧ Z.Warmed39 U.vm ∧ U.heap = h0) (fun _ _ _ _ _ => True) (fun _ U o U' => ∃ v L, o = .returned v ∧ (Q_biLong Z a q h0 n0) v U'.heap L ∧ FrameEnd U o U' L ({ frames := 2, cells := 0, slots := 0, locals := 24 } : Room).cells ({ frames := 2, cells := 0, slots := 0, locals := 24 } : Room).slots) := by
  refine own_met (Q := (Q_biLong Z a q h0 n0)) (plainFor_of_name (x := (⟨"java/lang/Long", "<init>", "(J)V"⟩ : MethodName)) pn_3) (fun m => ef_biLong m a q) ?_
  intro p e s m below meth cD s₁ hx hby hml hret hlk hZ hown hnm X0 e0 hs0
  have hown : s.vm.findClass "java/lang/Long" = some m.cls := hown
  have N0 := Fr.nil n0
  refine own_st (fr' := (mkF m 1 #[.val (.ref a), .val (.long q), .second] [(.ref a)])) (fun t k => XS.aloadN X0.here hx rfl (hb hby d5_0) rfl rfl k) ?_
  refine own_callN X0 hx hZ (y := (⟨"java/lang/Number", "<init>", "()V"⟩ : MethodName)) hown rfl (hw _ (List.mem_of_getElem? (i := 34) rfl)) (hw _ (List.mem_of_getElem? (i := 35) rfl)) (hw _ (List.mem_of_getElem? (i := 38) rfl)) (hw _ (List.mem_of_getElem? (i := 39) rfl)) (by decide) (a := a) (argsL := []) (rest := []) (W := 0) (rm_num l Z a0 hw [] a h0 n0 Z0 ) e0 (by rw [hml]; rfl) (lenOf pd_0 rfl) rfl (Nat.le_of_eq rfl) (hb hby d5_1) (by decide) (by decide) (by decide) (by decide) ?_
  intro v13 T13 L13 X13 hQ13
  obtain ⟨rfl, Nq13, eq13⟩ := hQ13
  have N13 := Fr.app N0 Nq13
  refine own_st (fr' := (mkF m 5 #[.val (.ref a), .val (.long q), .second] [(.ref a)])) (fun t k => XS.aloadN X13.here hx rfl (hb hby d5_4) rfl rfl k) ?_
  refine own_st (fr' := (mkF m 6 #[.val (.ref a), .val (.long q), .second] [(.long q), (.ref a)])) (fun t k => XS.lloadN X13.here hx rfl (hb hby d5_5) rfl  k) ?_
  obtain ⟨T14, h14, X14, e14, W14, st14⟩ := putF X13 hx hZ hown (host := "") (Or.inl (hw _ (List.mem_of_getElem? (i := 41) rfl))) Via.refl eq13 F0 E0 (Or.inr ⟨(hw _ (List.mem_of_getElem? (i := 42) rfl)), rfl, hnm⟩) (hw _ (List.mem_of_getElem? (i := 29) rfl)) (ty := .long) (by decide) (rfl) (rfl) (g := (mkF m 6 #[.val (.ref a), .val (.long q), .second] [(.long q), (.ref a)])) rfl rfl (hb hby d5_6)
  have Fw14 := Fld.same W14 F0
  have N14 := Fr.snoc X14 N13 ge_a
  refine own_st (fr' := (mkF m 9 #[.val (.ref a), .val (.long q), .second] [])) st14 ?_
  exact own_retV X14 hx hlk hret (hb hby d5_9) (by decide) (by decide) (by rw [e14]; exact ⟨rfl, N14, (Keep.wr (Keep.refl h0 [a]) W14 (Or.inl (List.mem_of_getElem? (i := 0) rfl)))⟩)
theorem pd_2 : parseMethodDescriptor "(J)V" = some ⟨[.long], none⟩ := by decide +kernel
theorem d4_0 : decode jdk_35_method_24_code 0 = .ok (.sipush 128, 3) := by decide +kernel
theorem d4_3 : decode jdk_35_method_24_code 3 = .ok (.istore_n 2, 1) := by decide +kernel
theorem d4_4 : decode jdk_35_method_24_code 4 = .ok (.lload_n 0, 1) := by decide +kernel
theorem d4_5 : decode jdk_35_method_24_code 5 = .ok (.ldc2_w 230, 3) := by decide +kernel
theorem d4_8 : decode jdk_35_method_24_code 8 = .ok (.lcmp, 1) := by decide +kernel
theorem d4_9 : decode jdk_35_method_24_code 9 = .ok (.ifCond .lt 22, 3) := by decide +kernel
theorem d4_12 : decode jdk_35_method_24_code 12 = .ok (.lload_n 0, 1) := by decide +kernel
theorem d4_13 : decode jdk_35_method_24_code 13 = .ok (.ldc2_w 232, 3) := by decide +kernel
theorem d4_16 : decode jdk_35_method_24_code 16 = .ok (.lcmp, 1) := by decide +kernel
theorem d4_17 : decode jdk_35_method_24_code 17 = .ok (.ifCond .gt 14, 3) := by decide +kernel
theorem d4_20 : decode jdk_35_method_24_code 20 = .ok (.getstatic 234, 3) := by decide +kernel
theorem d4_23 : decode jdk_35_method_24_code 23 = .ok (.lload_n 0, 1) := by decide +kernel
theorem d4_24 : decode jdk_35_method_24_code 24 = .ok (.l2i, 1) := by decide +kernel
theorem d4_25 : decode jdk_35_method_24_code 25 = .ok (.sipush 128, 3) := by decide +kernel
theorem d4_28 : decode jdk_35_method_24_code 28 = .ok (.iadd, 1) := by decide +kernel
theorem d4_29 : decode jdk_35_method_24_code 29 = .ok (.aaload, 1) := by decide +kernel
theorem d4_30 : decode jdk_35_method_24_code 30 = .ok (.areturn, 1) := by decide +kernel
theorem d4_31 : decode jdk_35_method_24_code 31 = .ok (.new 1, 3) := by decide +kernel
theorem d4_34 : decode jdk_35_method_24_code 34 = .ok (.dup, 1) := by decide +kernel
theorem d4_35 : decode jdk_35_method_24_code 35 = .ok (.lload_n 0, 1) := by decide +kernel
theorem d4_36 : decode jdk_35_method_24_code 36 = .ok (.invokespecial 240, 3) := by decide +kernel
theorem d4_39 : decode jdk_35_method_24_code 39 = .ok (.areturn, 1) := by decide +kernel
theorem ef_voLong (m : MethodId) (q : Int64) : entryFrame m #[(.long q)] 3 = mkF m 0 #[.val (.long q), .second, .unset] [] := by first | (simp [entryFrame, mkF, argsToLocals, Value.category, maxLocals]; done) | rfl
def Q_voLong (Z : State) (q : Int64) (ca : Addr) (fc : Nat → Value) (h0 : Heap) (n0 : Nat) : Option Value → Heap → List Loc → Prop := fun v h L => (∃ b : Addr, v = some (.ref b) ∧ Exa Z h b "java/lang/Long") ∧ Fr n0 L ∧ Keep h0 h []
set_option maxRecDepth 65536 in
set_option maxHeartbeats 40000000 in
theorem rm_voLong (l : Launch) (Z : State) (a0 : Array Value) (hw : ∀ d ∈ tables_1, d.before a0 Z = true) (ws : List Jvm.Cond) (q : Int64) (ca : Addr) (fc : Nat → Value) (h0 : Heap) (n0 : Nat) (Z0 : n0 ≤ h0.size) (S_c : Sta Z h0 "java/lang/Long$LongCache" "cache" "[Ljava/lang/Long;" (.ref ca)) (V_c : own_A Z h0 ca (.object "java/lang/Long") 256 fc) (IC : own_IC Z h0 "java/lang/Long" 256 fc) :
    MetFree l (⟨"java/lang/Long", "valueOf", "(J)Ljava/lang/Long;"⟩ : MethodName) (head1 (Jvm.Cond.code (⟨"java/lang/Long", "valueOf", "(J)Ljava/lang/Long;"⟩ : MethodName) jdk_35_method_24_code 3 (some (.object "java/lang/Long")) :: ws) ({ frames := 3, cells := 1, slots := 1, locals := 39 } : Room)) (fun aX U => aX = #[(.long q)] ∧ Z.Warmed39 U.vm ∧ U.heap = h0) (fun _ _ _ _ _ => True) (fun _ U o U' => ∃ v L, o = .returned v ∧ (Q_voLong Z q ca fc h0 n0) v U'.heap L ∧ FrameEnd U o U' L ({ frames := 3, cells := 1, slots := 1, locals := 39 } : Room).cells ({ frames := 3, cells := 1, slots := 1, locals := 39 } : Room).slots) := by
  refine own_met (Q := (Q_voLong Z q ca fc h0 n0)) (plainFor_of_name (x := (⟨"java/lang/Long", "valueOf", "(J)Ljava/lang/Long;"⟩ : MethodName)) pn_3) (fun m => ef_voLong m q) ?_
  intro p e s m below meth cD s₁ hx hby hml hret hlk hZ hown hnm X0 e0 hs0
  have hown : s.vm.findClass "java/lang/Long" = some m.cls := hown
  have N0 := Fr.nil n0
  refine own_st (fr' := (mkF m 3 #[.val (.long q), .second, .unset] [(.int (128 : Int32))])) (fun t k => XS.sipush X0.here hx rfl (hb hby d4_0) k) ?_
  refine own_st (fr' := (mkF m 4 #[.val (.long q), .second, .val (.int (128 : Int32))] [])) (fun t k => XS.istoreN X0.here hx rfl (hb hby d4_3) rfl  (l' := #[.val (.long q), .second, .val (.int (128 : Int32))]) rfl k) ?_
  refine own_st (fr' := (mkF m 5 #[.val (.long q), .second, .val (.int (128 : Int32))] [(.long q)])) (fun t k => XS.lloadN X0.here hx rfl (hb hby d4_4) rfl  k) ?_
  refine own_st (fr' := (mkF m 8 #[.val (.long q), .second, .val (.int (128 : Int32))] [(.long (-128 : Int64)), (.long q)])) (fun t k => X0.ldc2Long hx hown (mvT hZ (hw _ (List.mem_of_getElem? (i := 26) rfl))) (g := (mkF m 5 #[.val (.long q), .second, .val (.int (128 : Int32))] [(.long q)])) rfl (hb hby d4_5) t k) ?_
  refine own_st (fr' := (mkF m 9 #[.val (.long q), .second, .val (.int (128 : Int32))] [(.int (lcmpW q (-128 : Int64)))])) (fun t k => XS.lcmp X0.here hx rfl (hb hby d4_8) rfl k) ?_
  by_cases h1 : q.toInt < (-128)
  · refine own_st (fr' := (mkF m 31 #[.val (.long q), .second, .val (.int (128 : Int32))] [])) (fun t k => XS.ifYes X0.here hx rfl (pc0 := 9) (pc' := 31) rfl (hb hby d4_9) rfl (own_tltL (x := q) (y := (-128 : Int64)) h1).1 (by decide) (by decide) k) ?_
    obtain ⟨T15, h15, X15, e15, E15, A15, D15, -, st15⟩ := newO X0 hx hZ hown (hw _ (List.mem_of_getElem? (i := 28) rfl)) (hw _ (List.mem_of_getElem? (i := 29) rfl)) (hw _ (List.mem_of_getElem? (i := 24) rfl)) e0 (g := (mkF m 31 #[.val (.long q), .second, .val (.int (128 : Int32))] [])) rfl (hb hby d4_31) (by decide) (by decide)
    obtain ⟨b15, g15⟩ : ∃ z, z = h0.size := ⟨_, rfl⟩
    rw [← g15] at A15 D15 st15
    have ne15_ca : ca ≠ b15 := Nat.ne_of_lt (Nat.lt_of_lt_of_eq V_c.lt g15.symm)
    have ge_b15 : n0 ≤ b15 := Nat.le_trans Z0 (Nat.le_of_eq g15.symm)
    have sz_b15 : h0.size ≤ b15 := Nat.le_trans (Keep.refl h0 []).1 (Nat.le_of_eq g15.symm)
    have F15_value : Fld Z h15 b15 "java/lang/Long" "value" "J" (.long (0 : Int64)) := D15 (Or.inr (hw _ (List.mem_of_getElem? (i := 42) rfl))) (ty := .long) (by decide)
    refine own_st (fr' := (mkF m 34 #[.val (.long q), .second, .val (.int (128 : Int32))] [(.ref b15)])) st15 ?_
    refine own_st (fr' := (mkF m 35 #[.val (.long q), .second, .val (.int (128 : Int32))] [(.ref b15), (.ref b15)])) (fun t k => XS.dup X15.here hx rfl (hb hby d4_34) rfl rfl k) ?_
    refine own_st (fr' := (mkF m 36 #[.val (.long q), .second, .val (.int (128 : Int32))] [(.long q), (.ref b15), (.ref b15)])) (fun t k => XS.lloadN X15.here hx rfl (hb hby d4_35) rfl  k) ?_
    refine own_callN X15 hx hZ (y := (⟨"java/lang/Long", "<init>", "(J)V"⟩ : MethodName)) hown rfl (hw _ (List.mem_of_getElem? (i := 30) rfl)) (hw _ (List.mem_of_getElem? (i := 31) rfl)) (hw _ (List.mem_of_getElem? (i := 24) rfl)) (hw _ (List.mem_of_getElem? (i := 33) rfl)) (by decide) (a := b15) (argsL := [(.long q)]) (rest := [(.ref b15)]) (W := 1) (rm_biLong l Z a0 hw [] b15 q h15 n0 (Nat.le_trans Z0 E15.1) F15_value A15 ge_b15) e15 (by rw [hml]; rfl) (lenOf pd_2 rfl) rfl (Nat.le_of_eq rfl) (hb hby d4_36) (by decide) (by decide) (by decide) (by decide) ?_
    intro v16 T16 L16 X16 hQ16
    obtain ⟨rfl, Nq16, K16⟩ := hQ16
    have N16 := Fr.app N0 Nq16
    exact own_retA X16 hx hlk hret rfl rfl (hb hby d4_39) (by decide) (by decide) (⟨⟨b15, rfl, (A15.keep K16)⟩, N16, (Keep.trans (Keep.ext (Keep.refl h0 []) E15) K16 (allS (Or.inr sz_b15) all0))⟩)
  · refine own_st (fr' := (mkF m 12 #[.val (.long q), .second, .val (.int (128 : Int32))] [])) (fun t k => XS.ifNo X0.here hx rfl (hb hby d4_9) rfl (own_fltL (x := q) (y := (-128 : Int64)) h1).1 k) ?_
    refine own_st (fr' := (mkF m 13 #[.val (.long q), .second, .val (.int (128 : Int32))] [(.long q)])) (fun t k => XS.lloadN X0.here hx rfl (hb hby d4_12) rfl  k) ?_
    refine own_st (fr' := (mkF m 16 #[.val (.long q), .second, .val (.int (128 : Int32))] [(.long (127 : Int64)), (.long q)])) (fun t k => X0.ldc2Long hx hown (mvT hZ (hw _ (List.mem_of_getElem? (i := 27) rfl))) (g := (mkF m 13 #[.val (.long q), .second, .val (.int (128 : Int32))] [(.long q)])) rfl (hb hby d4_13) t k) ?_
    refine own_st (fr' := (mkF m 17 #[.val (.long q), .second, .val (.int (128 : Int32))] [(.int (lcmpW q (127 : Int64)))])) (fun t k => XS.lcmp X0.here hx rfl (hb hby d4_16) rfl k) ?_
    by_cases h2 : 127 < q.toInt
    · refine own_st (fr' := (mkF m 31 #[.val (.long q), .second, .val (.int (128 : Int32))] [])) (fun t k => XS.ifYes X0.here hx rfl (pc0 := 17) (pc' := 31) rfl (hb hby d4_17) rfl (own_tgtL (x := q) (y := (127 : Int64)) h2).1 (by decide) (by decide) k) ?_
      obtain ⟨T17, h17, X17, e17, E17, A17, D17, -, st17⟩ := newO X0 hx hZ hown (hw _ (List.mem_of_getElem? (i := 28) rfl)) (hw _ (List.mem_of_getElem? (i := 29) rfl)) (hw _ (List.mem_of_getElem? (i := 24) rfl)) e0 (g := (mkF m 31 #[.val (.long q), .second, .val (.int (128 : Int32))] [])) rfl (hb hby d4_31) (by decide) (by decide)
      obtain ⟨b17, g17⟩ : ∃ z, z = h0.size := ⟨_, rfl⟩
      rw [← g17] at A17 D17 st17
      have ne17_ca : ca ≠ b17 := Nat.ne_of_lt (Nat.lt_of_lt_of_eq V_c.lt g17.symm)
      have ge_b17 : n0 ≤ b17 := Nat.le_trans Z0 (Nat.le_of_eq g17.symm)
      have sz_b17 : h0.size ≤ b17 := Nat.le_trans (Keep.refl h0 []).1 (Nat.le_of_eq g17.symm)
      have F17_value : Fld Z h17 b17 "java/lang/Long" "value" "J" (.long (0 : Int64)) := D17 (Or.inr (hw _ (List.mem_of_getElem? (i := 42) rfl))) (ty := .long) (by decide)
      refine own_st (fr' := (mkF m 34 #[.val (.long q), .second, .val (.int (128 : Int32))] [(.ref b17)])) st17 ?_
      refine own_st (fr' := (mkF m 35 #[.val (.long q), .second, .val (.int (128 : Int32))] [(.ref b17), (.ref b17)])) (fun t k => XS.dup X17.here hx rfl (hb hby d4_34) rfl rfl k) ?_
      refine own_st (fr' := (mkF m 36 #[.val (.long q), .second, .val (.int (128 : Int32))] [(.long q), (.ref b17), (.ref b17)])) (fun t k => XS.lloadN X17.here hx rfl (hb hby d4_35) rfl  k) ?_
      refine own_callN X17 hx hZ (y := (⟨"java/lang/Long", "<init>", "(J)V"⟩ : MethodName)) hown rfl (hw _ (List.mem_of_getElem? (i := 30) rfl)) (hw _ (List.mem_of_getElem? (i := 31) rfl)) (hw _ (List.mem_of_getElem? (i := 24) rfl)) (hw _ (List.mem_of_getElem? (i := 33) rfl)) (by decide) (a := b17) (argsL := [(.long q)]) (rest := [(.ref b17)]) (W := 1) (rm_biLong l Z a0 hw [] b17 q h17 n0 (Nat.le_trans Z0 E17.1) F17_value A17 ge_b17) e17 (by rw [hml]; rfl) (lenOf pd_2 rfl) rfl (Nat.le_of_eq rfl) (hb hby d4_36) (by decide) (by decide) (by decide) (by decide) ?_
      intro v18 T18 L18 X18 hQ18
      obtain ⟨rfl, Nq18, K18⟩ := hQ18
      have N18 := Fr.app N0 Nq18
      exact own_retA X18 hx hlk hret rfl rfl (hb hby d4_39) (by decide) (by decide) (⟨⟨b17, rfl, (A17.keep K18)⟩, N18, (Keep.trans (Keep.ext (Keep.refl h0 []) E17) K18 (allS (Or.inr sz_b17) all0))⟩)
    · refine own_st (fr' := (mkF m 20 #[.val (.long q), .second, .val (.int (128 : Int32))] [])) (fun t k => XS.ifNo X0.here hx rfl (hb hby d4_17) rfl (own_fgtL (x := q) (y := (127 : Int64)) h2).1 k) ?_
      obtain ⟨T19, X19, e19, st19⟩ := getS2 X0 hx hZ hown (host := "") (Or.inl (hw _ (List.mem_of_getElem? (i := 64) rfl))) Via.refl e0 S_c (g := (mkF m 20 #[.val (.long q), .second, .val (.int (128 : Int32))] [])) rfl (hb hby d4_20)
      refine own_st (fr' := (mkF m 23 #[.val (.long q), .second, .val (.int (128 : Int32))] [(.ref ca)])) st19 ?_
      refine own_st (fr' := (mkF m 24 #[.val (.long q), .second, .val (.int (128 : Int32))] [(.long q), (.ref ca)])) (fun t k => XS.lloadN X19.here hx rfl (hb hby d4_23) rfl  k) ?_
      refine own_st (fr' := (mkF m 25 #[.val (.long q), .second, .val (.int (128 : Int32))] [(.int (q.toInt32)), (.ref ca)])) (fun t k => XS.l2i X19.here hx rfl (hb hby d4_24) rfl k) ?_
      refine own_st (fr' := (mkF m 28 #[.val (.long q), .second, .val (.int (128 : Int32))] [(.int (128 : Int32)), (.int (q.toInt32)), (.ref ca)])) (fun t k => XS.sipush X19.here hx rfl (hb hby d4_25) k) ?_
      refine own_st (fr' := (mkF m 29 #[.val (.long q), .second, .val (.int (128 : Int32))] [(.int ((q.toInt32) + (128 : Int32))), (.ref ca)])) (fun t k => XS.iadd X19.here hx rfl (hb hby d4_28) rfl k) ?_
      have q0 := c_l2i q
      have r0 := rng32 q.toInt32
      have q1 := c_iadd q.toInt32 128
      have r1 := rng32 (q.toInt32 + 128)
      have k1 : (128 : Int32).toInt = 128 := rfl
      generalize ((q.toInt32) + (128 : Int32)) = ix at q1 r1 ⊢
      have i0 : 0 ≤ ix.toInt := by omega
      have i1 : ix.toInt < (256 : Int32).toInt := by have k2 : (256 : Int32).toInt = 256 := rfl; omega
      obtain ⟨bb, eb, Eb⟩ := IC ix.toInt.toNat (by omega)
      refine own_aaload X19 hx hZ e19 V_c rfl (i0) (i1) (v := (.ref bb)) (eb) (hb hby d4_29) ?_
      exact own_retA X19 hx hlk hret rfl rfl (hb hby d4_30) (by decide) (by decide) (by rw [e19]; exact ⟨⟨bb, rfl, Eb⟩, N0, (Keep.refl h0 [])⟩)
theorem d3_0 : decode prog_24_method_4_code 0 = .ok (.aload_n 1, 1) := by decide +kernel
theorem d3_1 : decode prog_24_method_4_code 1 = .ok (.instanceof 17, 3) := by decide +kernel
theorem d3_4 : decode prog_24_method_4_code 4 = .ok (.ifCond .eq 11, 3) := by decide +kernel
theorem d3_15 : decode prog_24_method_4_code 15 = .ok (.iconst 0, 1) := by decide +kernel
theorem d3_16 : decode prog_24_method_4_code 16 = .ok (.ireturn, 1) := by decide +kernel
theorem ef_eqnull (m : MethodId) (a : Addr) : entryFrame m #[(.ref a), .null] 3 = mkF m 0 #[.val (.ref a), .val .null, .unset] [] := by first | (simp [entryFrame, mkF, argsToLocals, Value.category, maxLocals]; done) | rfl
def Q_eqnull (Z : State) (a : Addr) (h0 : Heap) (n0 : Nat) : Option Value → Heap → List Loc → Prop := fun v h L => v = some (.int 0) ∧ Fr n0 L ∧ h = h0
set_option maxRecDepth 65536 in
set_option maxHeartbeats 40000000 in
theorem rm_eqnull (l : Launch) (Z : State) (a0 : Array Value) (hw : ∀ d ∈ tables_1, d.before a0 Z = true) (ws : List Jvm.Cond) (a : Addr) (h0 : Heap) (n0 : Nat) (Z0 : n0 ≤ h0.size)  :
    MetFree l (⟨"com/example/timed_net_processes/timednetprocesses/Step", "equals", "(Ljava/lang/Object;)Z"⟩ : MethodName) (head1 (Jvm.Cond.code (⟨"com/example/timed_net_processes/timednetprocesses/Step", "equals", "(Ljava/lang/Object;)Z"⟩ : MethodName) prog_24_method_4_code 3 (some .boolean) :: ws) ({ frames := 0, cells := 0, slots := 0, locals := 0 } : Room)) (fun aX U => aX = #[(.ref a), .null] ∧ Z.Warmed39 U.vm ∧ U.heap = h0) (fun _ _ _ _ _ => True) (fun _ U o U' => ∃ v L, o = .returned v ∧ (Q_eqnull Z a h0 n0) v U'.heap L ∧ FrameEnd U o U' L ({ frames := 0, cells := 0, slots := 0, locals := 0 } : Room).cells ({ frames := 0, cells := 0, slots := 0, locals := 0 } : Room).slots) := by
  refine own_met (Q := (Q_eqnull Z a h0 n0)) (plainFor_of_name (x := (⟨"com/example/timed_net_processes/timednetprocesses/Step", "equals", "(Ljava/lang/Object;)Z"⟩ : MethodName)) pn_0) (fun m => ef_eqnull m a) ?_
  intro p e s m below meth cD s₁ hx hby hml hret hlk hZ hown hnm X0 e0 hs0
  have hown : s.vm.findClass "com/example/timed_net_processes/timednetprocesses/Step" = some m.cls := hown
  have N0 := Fr.nil n0
  refine own_st (fr' := (mkF m 1 #[.val (.ref a), .val .null, .unset] [.null])) (fun t k => XS.aloadN X0.here hx rfl (hb hby d3_0) rfl rfl k) ?_
  refine own_st (fr' := (mkF m 4 #[.val (.ref a), .val .null, .unset] [(.int (0 : Int32))])) (X0.instanceofNull hx (g := (mkF m 1 #[.val (.ref a), .val .null, .unset] [.null])) rfl rfl (hb hby d3_1)) ?_
  refine own_st (fr' := (mkF m 15 #[.val (.ref a), .val .null, .unset] [])) (fun t k => XS.ifYes X0.here hx rfl (pc0 := 4) (pc' := 15) rfl (hb hby d3_4) rfl ((if0 _ _).trans (own_teq (x := (0 : Int32)) (y := (0 : Int32)) (show 0 = 0 from rfl)).1) (by decide) (by decide) k) ?_
  refine own_st (fr' := (mkF m 16 #[.val (.ref a), .val .null, .unset] [(.int (0 : Int32))])) (fun t k => XS.iconst X0.here hx rfl (hb hby d3_15) k) ?_
  exact own_retZ X0 hx hlk hret (Or.inl rfl) (hb hby d3_16) (by decide) (by decide) (⟨rfl, N0, e0⟩)
theorem ef_eqInteger (m : MethodId) (a : Addr) (b : Addr) : entryFrame m #[(.ref a), (.ref b)] 3 = mkF m 0 #[.val (.ref a), .val (.ref b), .unset] [] := by first | (simp [entryFrame, mkF, argsToLocals, Value.category, maxLocals]; done) | rfl
def Q_eqInteger (Z : State) (a : Addr) (b : Addr) (h0 : Heap) (n0 : Nat) : Option Value → Heap → List Loc → Prop := fun v h L => v = some (.int 0) ∧ Fr n0 L ∧ h = h0
set_option maxRecDepth 65536 in
set_option maxHeartbeats 40000000 in
theorem rm_eqInteger (l : Launch) (Z : State) (a0 : Array Value) (hw : ∀ d ∈ tables_1, d.before a0 Z = true) (ws : List Jvm.Cond) (a : Addr) (b : Addr) (h0 : Heap) (n0 : Nat) (Z0 : n0 ≤ h0.size) (E1 : Exa Z h0 b "java/lang/Integer") :
    MetFree l (⟨"com/example/timed_net_processes/timednetprocesses/Step", "equals", "(Ljava/lang/Object;)Z"⟩ : MethodName) (head1 (Jvm.Cond.code (⟨"com/example/timed_net_processes/timednetprocesses/Step", "equals", "(Ljava/lang/Object;)Z"⟩ : MethodName) prog_24_method_4_code 3 (some .boolean) :: ws) ({ frames := 0, cells := 0, slots := 0, locals := 0 } : Room)) (fun aX U => aX = #[(.ref a), (.ref b)] ∧ Z.Warmed39 U.vm ∧ U.heap = h0) (fun _ _ _ _ _ => True) (fun _ U o U' => ∃ v L, o = .returned v ∧ (Q_eqInteger Z a b h0 n0) v U'.heap L ∧ FrameEnd U o U' L ({ frames := 0, cells := 0, slots := 0, locals := 0 } : Room).cells ({ frames := 0, cells := 0, slots := 0, locals := 0 } : Room).slots) := by
  refine own_met (Q := (Q_eqInteger Z a b h0 n0)) (plainFor_of_name (x := (⟨"com/example/timed_net_processes/timednetprocesses/Step", "equals", "(Ljava/lang/Object;)Z"⟩ : MethodName)) pn_0) (fun m => ef_eqInteger m a b) ?_
  intro p e s m below meth cD s₁ hx hby hml hret hlk hZ hown hnm X0 e0 hs0
  have hown : s.vm.findClass "com/example/timed_net_processes/timednetprocesses/Step" = some m.cls := hown
  have N0 := Fr.nil n0
  refine own_st (fr' := (mkF m 1 #[.val (.ref a), .val (.ref b), .unset] [(.ref b)])) (fun t k => XS.aloadN X0.here hx rfl (hb hby d3_0) rfl rfl k) ?_
  have NI : Ins Z h0 b "com/example/timed_net_processes/timednetprocesses/Step" false := own_notIns (t := ["java/lang/Number", "java/lang/Object"]) E1 (fun w hm => by
      simp only [Cond.chainWords, List.mem_cons, List.not_mem_nil, or_false] at hm
      rcases hm with rfl | rfl | rfl
      · exact (hw _ (List.mem_of_getElem? (i := 62) rfl))
      · exact (hw _ (List.mem_of_getElem? (i := 44) rfl))
      · exact (hw _ (List.mem_of_getElem? (i := 45) rfl))) (hw _ (List.mem_of_getElem? (i := 3) rfl)) (by decide)
  obtain ⟨T20, X20, e20, st20⟩ := instN X0 hx hZ hown (hw _ (List.mem_of_getElem? (i := 20) rfl)) e0 (hs0 ▸ NI) (hs0 ▸ E1) (g := (mkF m 1 #[.val (.ref a), .val (.ref b), .unset] [(.ref b)])) rfl rfl (hb hby d3_1)
  refine own_st (fr' := (mkF m 4 #[.val (.ref a), .val (.ref b), .unset] [(.int (0 : Int32))])) st20 ?_
  refine own_st (fr' := (mkF m 15 #[.val (.ref a), .val (.ref b), .unset] [])) (fun t k => XS.ifYes X20.here hx rfl (pc0 := 4) (pc' := 15) rfl (hb hby d3_4) rfl ((if0 _ _).trans (own_teq (x := (0 : Int32)) (y := (0 : Int32)) (show 0 = 0 from rfl)).1) (by decide) (by decide) k) ?_
  refine own_st (fr' := (mkF m 16 #[.val (.ref a), .val (.ref b), .unset] [(.int (0 : Int32))])) (fun t k => XS.iconst X20.here hx rfl (hb hby d3_15) k) ?_
  exact own_retZ X20 hx hlk hret (Or.inl rfl) (hb hby d3_16) (by decide) (by decide) (⟨rfl, N0, e20⟩)
theorem ef_eqLong (m : MethodId) (a : Addr) (b : Addr) : entryFrame m #[(.ref a), (.ref b)] 3 = mkF m 0 #[.val (.ref a), .val (.ref b), .unset] [] := by first | (simp [entryFrame, mkF, argsToLocals, Value.category, maxLocals]; done) | rfl
def Q_eqLong (Z : State) (a : Addr) (b : Addr) (h0 : Heap) (n0 : Nat) : Option Value → Heap → List Loc → Prop := fun v h L => v = some (.int 0) ∧ Fr n0 L ∧ h = h0
set_option maxRecDepth 65536 in
set_option maxHeartbeats 40000000 in
theorem rm_eqLong (l : Launch) (Z : State) (a0 : Array Value) (hw : ∀ d ∈ tables_1, d.before a0 Z = true) (ws : List Jvm.Cond) (a : Addr) (b : Addr) (h0 : Heap) (n0 : Nat) (Z0 : n0 ≤ h0.size) (E1 : Exa Z h0 b "java/lang/Long") :
    MetFree l (⟨"com/example/timed_net_processes/timednetprocesses/Step", "equals", "(Ljava/lang/Object;)Z"⟩ : MethodName) (head1 (Jvm.Cond.code (⟨"com/example/timed_net_processes/timednetprocesses/Step", "equals", "(Ljava/lang/Object;)Z"⟩ : MethodName) prog_24_method_4_code 3 (some .boolean) :: ws) ({ frames := 0, cells := 0, slots := 0, locals := 0 } : Room)) (fun aX U => aX = #[(.ref a), (.ref b)] ∧ Z.Warmed39 U.vm ∧ U.heap = h0) (fun _ _ _ _ _ => True) (fun _ U o U' => ∃ v L, o = .returned v ∧ (Q_eqLong Z a b h0 n0) v U'.heap L ∧ FrameEnd U o U' L ({ frames := 0, cells := 0, slots := 0, locals := 0 } : Room).cells ({ frames := 0, cells := 0, slots := 0, locals := 0 } : Room).slots) := by
  refine own_met (Q := (Q_eqLong Z a b h0 n0)) (plainFor_of_name (x := (⟨"com/example/timed_net_processes/timednetprocesses/Step", "equals", "(Ljava/lang/Object;)Z"⟩ : MethodName)) pn_0) (fun m => ef_eqLong m a b) ?_
  intro p e s m below meth cD s₁ hx hby hml hret hlk hZ hown hnm X0 e0 hs0
  have hown : s.vm.findClass "com/example/timed_net_processes/timednetprocesses/Step" = some m.cls := hown
  have N0 := Fr.nil n0
  refine own_st (fr' := (mkF m 1 #[.val (.ref a), .val (.ref b), .unset] [(.ref b)])) (fun t k => XS.aloadN X0.here hx rfl (hb hby d3_0) rfl rfl k) ?_
  have NI : Ins Z h0 b "com/example/timed_net_processes/timednetprocesses/Step" false := own_notIns (t := ["java/lang/Number", "java/lang/Object"]) E1 (fun w hm => by
      simp only [Cond.chainWords, List.mem_cons, List.not_mem_nil, or_false] at hm
      rcases hm with rfl | rfl | rfl
      · exact (hw _ (List.mem_of_getElem? (i := 43) rfl))
      · exact (hw _ (List.mem_of_getElem? (i := 44) rfl))
      · exact (hw _ (List.mem_of_getElem? (i := 45) rfl))) (hw _ (List.mem_of_getElem? (i := 3) rfl)) (by decide)
  obtain ⟨T21, X21, e21, st21⟩ := instN X0 hx hZ hown (hw _ (List.mem_of_getElem? (i := 20) rfl)) e0 (hs0 ▸ NI) (hs0 ▸ E1) (g := (mkF m 1 #[.val (.ref a), .val (.ref b), .unset] [(.ref b)])) rfl rfl (hb hby d3_1)
  refine own_st (fr' := (mkF m 4 #[.val (.ref a), .val (.ref b), .unset] [(.int (0 : Int32))])) st21 ?_
  refine own_st (fr' := (mkF m 15 #[.val (.ref a), .val (.ref b), .unset] [])) (fun t k => XS.ifYes X21.here hx rfl (pc0 := 4) (pc' := 15) rfl (hb hby d3_4) rfl ((if0 _ _).trans (own_teq (x := (0 : Int32)) (y := (0 : Int32)) (show 0 = 0 from rfl)).1) (by decide) (by decide) k) ?_
  refine own_st (fr' := (mkF m 16 #[.val (.ref a), .val (.ref b), .unset] [(.int (0 : Int32))])) (fun t k => XS.iconst X21.here hx rfl (hb hby d3_15) k) ?_
  exact own_retZ X21 hx hlk hret (Or.inl rfl) (hb hby d3_16) (by decide) (by decide) (⟨rfl, N0, e21⟩)
theorem d3_7 : decode prog_24_method_4_code 7 = .ok (.aload_n 1, 1) := by decide +kernel
theorem d3_8 : decode prog_24_method_4_code 8 = .ok (.checkcast 17, 3) := by decide +kernel
theorem d3_11 : decode prog_24_method_4_code 11 = .ok (.astore_n 2, 1) := by decide +kernel
theorem d3_12 : decode prog_24_method_4_code 12 = .ok (.goto 5, 3) := by decide +kernel
theorem d3_17 : decode prog_24_method_4_code 17 = .ok (.aload_n 0, 1) := by decide +kernel
theorem d3_18 : decode prog_24_method_4_code 18 = .ok (.getfield 16, 3) := by decide +kernel
theorem d3_21 : decode prog_24_method_4_code 21 = .ok (.aload_n 2, 1) := by decide +kernel
theorem d3_22 : decode prog_24_method_4_code 22 = .ok (.getfield 16, 3) := by decide +kernel
theorem d3_25 : decode prog_24_method_4_code 25 = .ok (.lcmp, 1) := by decide +kernel
theorem d3_26 : decode prog_24_method_4_code 26 = .ok (.ifCond .ne 18, 3) := by decide +kernel
theorem d3_29 : decode prog_24_method_4_code 29 = .ok (.aload_n 0, 1) := by decide +kernel
theorem d3_30 : decode prog_24_method_4_code 30 = .ok (.getfield 22, 3) := by decide +kernel
theorem d3_33 : decode prog_24_method_4_code 33 = .ok (.aload_n 2, 1) := by decide +kernel
theorem d3_34 : decode prog_24_method_4_code 34 = .ok (.getfield 22, 3) := by decide +kernel
theorem d3_37 : decode prog_24_method_4_code 37 = .ok (.if_icmp .ne 7, 3) := by decide +kernel
theorem d3_40 : decode prog_24_method_4_code 40 = .ok (.iconst 1, 1) := by decide +kernel
theorem d3_41 : decode prog_24_method_4_code 41 = .ok (.goto 4, 3) := by decide +kernel
theorem d3_44 : decode prog_24_method_4_code 44 = .ok (.iconst 0, 1) := by decide +kernel
theorem d3_45 : decode prog_24_method_4_code 45 = .ok (.ireturn, 1) := by decide +kernel
theorem ef_eqs (m : MethodId) (a : Addr) (b : Addr) : entryFrame m #[(.ref a), (.ref b)] 3 = mkF m 0 #[.val (.ref a), .val (.ref b), .unset] [] := by first | (simp [entryFrame, mkF, argsToLocals, Value.category, maxLocals]; done) | rfl
def Q_eqs (Z : State) (a : Addr) (b : Addr) (u0 : Int64) (u1 : Int32) (v0 : Int64) (v1 : Int32) (h0 : Heap) (n0 : Nat) : Option Value → Heap → List Loc → Prop := fun v h L => (∃ z : Int32, v = some (.int z) ∧ (((u0.toInt = v0.toInt ∧ u1.toInt = v1.toInt) ∧ z.toInt = 1) ∨ (¬ (u0.toInt = v0.toInt ∧ u1.toInt = v1.toInt) ∧ z.toInt = 0))) ∧ Fr n0 L ∧ h = h0
set_option maxRecDepth 65536 in
set_option maxHeartbeats 40000000 in
theorem rm_eqs (l : Launch) (Z : State) (a0 : Array Value) (hw : ∀ d ∈ tables_1, d.before a0 Z = true) (ws : List Jvm.Cond) (a : Addr) (b : Addr) (u0 : Int64) (u1 : Int32) (v0 : Int64) (v1 : Int32) (h0 : Heap) (n0 : Nat) (Z0 : n0 ≤ h0.size) (E1 : Exa Z h0 b "com/example/timed_net_processes/timednetprocesses/Step") (Fa0 : Fld Z h0 a "com/example/timed_net_processes/timednetprocesses/Step" "delay" "J" (.long u0)) (Fa1 : Fld Z h0 a "com/example/timed_net_processes/timednetprocesses/Step" "transition" "I" (.int u1)) (Fb0 : Fld Z h0 b "com/example/timed_net_processes/timednetprocesses/Step" "delay" "J" (.long v0)) (Fb1 : Fld Z h0 b "com/example/timed_net_processes/timednetprocesses/Step" "transition" "I" (.int v1)) :
    MetFree l (⟨"com/example/timed_net_processes/timednetprocesses/Step", "equals", "(Ljava/lang/Object;)Z"⟩ : MethodName) (head1 (Jvm.Cond.code (⟨"com/example/timed_net_processes/timednetprocesses/Step", "equals", "(Ljava/lang/Object;)Z"⟩ : MethodName) prog_24_method_4_code 3 (some .boolean) :: ws) ({ frames := 0, cells := 0, slots := 0, locals := 0 } : Room)) (fun aX U => aX = #[(.ref a), (.ref b)] ∧ Z.Warmed39 U.vm ∧ U.heap = h0) (fun _ _ _ _ _ => True) (fun _ U o U' => ∃ v L, o = .returned v ∧ (Q_eqs Z a b u0 u1 v0 v1 h0 n0) v U'.heap L ∧ FrameEnd U o U' L ({ frames := 0, cells := 0, slots := 0, locals := 0 } : Room).cells ({ frames := 0, cells := 0, slots := 0, locals := 0 } : Room).slots) := by
  refine own_met (Q := (Q_eqs Z a b u0 u1 v0 v1 h0 n0)) (plainFor_of_name (x := (⟨"com/example/timed_net_processes/timednetprocesses/Step", "equals", "(Ljava/lang/Object;)Z"⟩ : MethodName)) pn_0) (fun m => ef_eqs m a b) ?_
  intro p e s m below meth cD s₁ hx hby hml hret hlk hZ hown hnm X0 e0 hs0
  have hown : s.vm.findClass "com/example/timed_net_processes/timednetprocesses/Step" = some m.cls := hown
  have N0 := Fr.nil n0
  refine own_st (fr' := (mkF m 1 #[.val (.ref a), .val (.ref b), .unset] [(.ref b)])) (fun t k => XS.aloadN X0.here hx rfl (hb hby d3_0) rfl rfl k) ?_
  obtain ⟨T22, X22, e22, st22⟩ := instY X0 hx hZ hown (hw _ (List.mem_of_getElem? (i := 20) rfl)) e0 (Ins.self E1) (g := (mkF m 1 #[.val (.ref a), .val (.ref b), .unset] [(.ref b)])) rfl rfl (hb hby d3_1)
  refine own_st (fr' := (mkF m 4 #[.val (.ref a), .val (.ref b), .unset] [(.int (1 : Int32))])) st22 ?_
  refine own_st (fr' := (mkF m 7 #[.val (.ref a), .val (.ref b), .unset] [])) (fun t k => XS.ifNo X22.here hx rfl (hb hby d3_4) rfl ((if0 _ _).trans (own_feq (x := (1 : Int32)) (y := (0 : Int32)) (show ¬ 1 = 0 from by decide)).1) k) ?_
  refine own_st (fr' := (mkF m 8 #[.val (.ref a), .val (.ref b), .unset] [(.ref b)])) (fun t k => XS.aloadN X22.here hx rfl (hb hby d3_7) rfl rfl k) ?_
  obtain ⟨T23, X23, e23, st23⟩ := castY X22 hx hZ hown (hw _ (List.mem_of_getElem? (i := 20) rfl)) e22 (Ins.self E1) (g := (mkF m 8 #[.val (.ref a), .val (.ref b), .unset] [(.ref b)])) rfl rfl (hb hby d3_8)
  refine own_st (fr' := (mkF m 11 #[.val (.ref a), .val (.ref b), .unset] [(.ref b)])) st23 ?_
  refine own_st (fr' := (mkF m 12 #[.val (.ref a), .val (.ref b), .val (.ref b)] [])) (fun t k => XS.astoreN X23.here hx rfl (hb hby d3_11) rfl rfl (l' := #[.val (.ref a), .val (.ref b), .val (.ref b)]) rfl k) ?_
  refine own_st (fr' := (mkF m 17 #[.val (.ref a), .val (.ref b), .val (.ref b)] [])) (fun t k => XS.goto X23.here hx rfl (pc0 := 12) (pc' := 17) rfl (hb hby d3_12) (by decide) (by decide) k) ?_
  refine own_st (fr' := (mkF m 18 #[.val (.ref a), .val (.ref b), .val (.ref b)] [(.ref a)])) (fun t k => XS.aloadN X23.here hx rfl (hb hby d3_17) rfl rfl k) ?_
  obtain ⟨T24, X24, e24, st24⟩ := getF X23 hx hZ hown (host := "") (Or.inl (hw _ (List.mem_of_getElem? (i := 11) rfl))) Via.refl e23 Fa0 (g := (mkF m 18 #[.val (.ref a), .val (.ref b), .val (.ref b)] [(.ref a)])) rfl rfl (hb hby d3_18)
  refine own_st (fr' := (mkF m 21 #[.val (.ref a), .val (.ref b), .val (.ref b)] [(.long u0)])) st24 ?_
  refine own_st (fr' := (mkF m 22 #[.val (.ref a), .val (.ref b), .val (.ref b)] [(.ref b), (.long u0)])) (fun t k => XS.aloadN X24.here hx rfl (hb hby d3_21) rfl rfl k) ?_
  obtain ⟨T25, X25, e25, st25⟩ := getF X24 hx hZ hown (host := "") (Or.inl (hw _ (List.mem_of_getElem? (i := 11) rfl))) Via.refl e24 Fb0 (g := (mkF m 22 #[.val (.ref a), .val (.ref b), .val (.ref b)] [(.ref b), (.long u0)])) rfl rfl (hb hby d3_22)
  refine own_st (fr' := (mkF m 25 #[.val (.ref a), .val (.ref b), .val (.ref b)] [(.long v0), (.long u0)])) st25 ?_
  refine own_st (fr' := (mkF m 26 #[.val (.ref a), .val (.ref b), .val (.ref b)] [(.int (lcmpW u0 v0))])) (fun t k => XS.lcmp X25.here hx rfl (hb hby d3_25) rfl k) ?_
  by_cases hc26 : u0.toInt = v0.toInt
  · refine own_st (fr' := (mkF m 29 #[.val (.ref a), .val (.ref b), .val (.ref b)] [])) (fun t k => XS.ifNo X25.here hx rfl (hb hby d3_26) rfl (own_teqL (x := u0) (y := v0) hc26).2 k) ?_
    refine own_st (fr' := (mkF m 30 #[.val (.ref a), .val (.ref b), .val (.ref b)] [(.ref a)])) (fun t k => XS.aloadN X25.here hx rfl (hb hby d3_29) rfl rfl k) ?_
    obtain ⟨T27, X27, e27, st27⟩ := getF X25 hx hZ hown (host := "") (Or.inl (hw _ (List.mem_of_getElem? (i := 13) rfl))) Via.refl e25 Fa1 (g := (mkF m 30 #[.val (.ref a), .val (.ref b), .val (.ref b)] [(.ref a)])) rfl rfl (hb hby d3_30)
    refine own_st (fr' := (mkF m 33 #[.val (.ref a), .val (.ref b), .val (.ref b)] [(.int u1)])) st27 ?_
    refine own_st (fr' := (mkF m 34 #[.val (.ref a), .val (.ref b), .val (.ref b)] [(.ref b), (.int u1)])) (fun t k => XS.aloadN X27.here hx rfl (hb hby d3_33) rfl rfl k) ?_
    obtain ⟨T28, X28, e28, st28⟩ := getF X27 hx hZ hown (host := "") (Or.inl (hw _ (List.mem_of_getElem? (i := 13) rfl))) Via.refl e27 Fb1 (g := (mkF m 34 #[.val (.ref a), .val (.ref b), .val (.ref b)] [(.ref b), (.int u1)])) rfl rfl (hb hby d3_34)
    refine own_st (fr' := (mkF m 37 #[.val (.ref a), .val (.ref b), .val (.ref b)] [(.int v1), (.int u1)])) st28 ?_
    by_cases hc29 : u1.toInt = v1.toInt
    · refine own_st (fr' := (mkF m 40 #[.val (.ref a), .val (.ref b), .val (.ref b)] [])) (fun t k => XS.icmpNo X28.here hx rfl (hb hby d3_37) rfl (own_teq (x := u1) (y := v1) hc29).2 k) ?_
      refine own_st (fr' := (mkF m 41 #[.val (.ref a), .val (.ref b), .val (.ref b)] [(.int (1 : Int32))])) (fun t k => XS.iconst X28.here hx rfl (hb hby d3_40) k) ?_
      refine own_st (fr' := (mkF m 45 #[.val (.ref a), .val (.ref b), .val (.ref b)] [(.int (1 : Int32))])) (fun t k => XS.goto X28.here hx rfl (pc0 := 41) (pc' := 45) rfl (hb hby d3_41) (by decide) (by decide) k) ?_
      exact own_retZ X28 hx hlk hret (Or.inr rfl) (hb hby d3_45) (by decide) (by decide) (⟨⟨_, rfl, Or.inl ⟨by omega, rfl⟩⟩, N0, e28⟩)
    · refine own_st (fr' := (mkF m 44 #[.val (.ref a), .val (.ref b), .val (.ref b)] [])) (fun t k => XS.icmpYes X28.here hx rfl (pc0 := 37) (pc' := 44) rfl (hb hby d3_37) rfl (own_feq (x := u1) (y := v1) hc29).2 (by decide) (by decide) k) ?_
      refine own_st (fr' := (mkF m 45 #[.val (.ref a), .val (.ref b), .val (.ref b)] [(.int (0 : Int32))])) (fun t k => XS.iconst X28.here hx rfl (hb hby d3_44) k) ?_
      exact own_retZ X28 hx hlk hret (Or.inl rfl) (hb hby d3_45) (by decide) (by decide) (⟨⟨_, rfl, Or.inr ⟨by omega, rfl⟩⟩, N0, e28⟩)
  · refine own_st (fr' := (mkF m 44 #[.val (.ref a), .val (.ref b), .val (.ref b)] [])) (fun t k => XS.ifYes X25.here hx rfl (pc0 := 26) (pc' := 44) rfl (hb hby d3_26) rfl (own_feqL (x := u0) (y := v0) hc26).2 (by decide) (by decide) k) ?_
    refine own_st (fr' := (mkF m 45 #[.val (.ref a), .val (.ref b), .val (.ref b)] [(.int (0 : Int32))])) (fun t k => XS.iconst X25.here hx rfl (hb hby d3_44) k) ?_
    exact own_retZ X25 hx hlk hret (Or.inl rfl) (hb hby d3_45) (by decide) (by decide) (⟨⟨_, rfl, Or.inr ⟨by omega, rfl⟩⟩, N0, e25⟩)
theorem pd_3 : parseMethodDescriptor "(JI)V" = some ⟨[.long, .int], none⟩ := by decide +kernel
theorem pd_4 : parseMethodDescriptor "(Ljava/lang/Object;)Z" = some ⟨[(.object "java/lang/Object")], some .boolean⟩ := by decide +kernel
theorem pd_5 : parseMethodDescriptor "(J)Ljava/lang/Long;" = some ⟨[.long], some (.object "java/lang/Long")⟩ := by decide +kernel
theorem pd_6 : parseMethodDescriptor "(I)Ljava/lang/Integer;" = some ⟨[.int], some (.object "java/lang/Integer")⟩ := by decide +kernel
theorem pn_4 : plainName "com/example/timed_net_processes/timednetprocesses/StepEqualsPinLaw" = true := by first | (simp [plainName, overriddenIn]; done) | decide +kernel
theorem ef_law (m : MethodId) (p0 : Int64) (p1 : Int32) (p2 : Int64) (p3 : Int32) (p4 : Int32) : entryFrame m #[(.long p0), (.int p1), (.long p2), (.int p3), (.int p4)] maxLocals = mkF m 0 #[.val (.long p0), .second, .val (.int p1), .val (.long p2), .second, .val (.int p3), .val (.int p4), .unset, .unset, .unset, .unset, .unset, .unset, .unset, .unset, .unset, .unset, .unset, .unset] [] := by first | (simp [entryFrame, mkF, argsToLocals, Value.category, maxLocals]; done) | rfl
def Q_law (Z : State) (p0 : Int64) (p1 : Int32) (p2 : Int64) (p3 : Int32) (p4 : Int32) (caI : Addr) (fcI : Nat → Value) (caL : Addr) (fcL : Nat → Value) (h0 : Heap) (n0 : Nat) : Option Value → Heap → List Loc → Prop := fun v h L => v = some (.int 1) ∧ Fr n0 L
set_option maxRecDepth 65536 in
set_option maxHeartbeats 40000000 in
theorem rm_law (l : Launch) (Z : State) (a0 : Array Value) (hw : ∀ d ∈ tables_1, d.before a0 Z = true) (ws : List Jvm.Cond) (p0 : Int64) (p1 : Int32) (p2 : Int64) (p3 : Int32) (p4 : Int32) (caI : Addr) (fcI : Nat → Value) (caL : Addr) (fcL : Nat → Value) (h0 : Heap) (n0 : Nat) (Z0 : n0 ≤ h0.size) (S_h : Sta Z h0 "java/lang/Integer$IntegerCache" "high" "I" (.int 127)) (S_cI : Sta Z h0 "java/lang/Integer$IntegerCache" "cache" "[Ljava/lang/Integer;" (.ref caI)) (V_cI : own_A Z h0 caI (.object "java/lang/Integer") 256 fcI) (ICI : own_IC Z h0 "java/lang/Integer" 256 fcI) (S_cL : Sta Z h0 "java/lang/Long$LongCache" "cache" "[Ljava/lang/Long;" (.ref caL)) (V_cL : own_A Z h0 caL (.object "java/lang/Long") 256 fcL) (ICL : own_IC Z h0 "java/lang/Long" 256 fcL) :
    MetFree l x (head1 (Jvm.Cond.code x code maxLocals ret :: ws) room_1) (fun aX U => aX = #[(.long p0), (.int p1), (.long p2), (.int p3), (.int p4)] ∧ Z.Warmed39 U.vm ∧ U.heap = h0) (fun _ _ _ _ _ => True) (fun _ U o U' => ∃ v L, o = .returned v ∧ (Q_law Z p0 p1 p2 p3 p4 caI fcI caL fcL h0 n0) v U'.heap L ∧ FrameEnd U o U' L room_1.cells room_1.slots) := by
  refine own_met (Q := (Q_law Z p0 p1 p2 p3 p4 caI fcI caL fcL h0 n0)) (plainFor_of_name (x := x) pn_4) (fun m => ef_law m p0 p1 p2 p3 p4) ?_
  intro p e s m below meth cD s₁ hx hby hml hret hlk hZ hown hnm X0 e0 hs0
  have hml : cD.maxLocals = 19 := hml
  have hown : s.vm.findClass "com/example/timed_net_processes/timednetprocesses/StepEqualsPinLaw" = some m.cls := hown
  have N0 := Fr.nil n0
  refine own_st (fr' := (mkF m 1 #[.val (.long p0), .second, .val (.int p1), .val (.long p2), .second, .val (.int p3), .val (.int p4), .unset, .unset, .unset, .unset, .unset, .unset, .unset, .unset, .unset, .unset, .unset, .unset] [(.long p0)])) (fun t k => XS.lloadN X0.here hx rfl (hb hby at_0) rfl  k) ?_
  refine own_st (fr' := (mkF m 4 #[.val (.long p0), .second, .val (.int p1), .val (.long p2), .second, .val (.int p3), .val (.int p4), .unset, .unset, .unset, .unset, .unset, .unset, .unset, .unset, .unset, .unset, .unset, .unset] [(.long (9223372036854775807 : Int64)), (.long p0)])) (fun t k => X0.ldc2Long hx hown (mvT hZ (hw _ (List.mem_of_getElem? (i := 0) rfl))) (g := (mkF m 1 #[.val (.long p0), .second, .val (.int p1), .val (.long p2), .second, .val (.int p3), .val (.int p4), .unset, .unset, .unset, .unset, .unset, .unset, .unset, .unset, .unset, .unset, .unset, .unset] [(.long p0)])) rfl (hb hby at_1) t k) ?_
  refine own_st (fr' := (mkF m 5 #[.val (.long p0), .second, .val (.int p1), .val (.long p2), .second, .val (.int p3), .val (.int p4), .unset, .unset, .unset, .unset, .unset, .unset, .unset, .unset, .unset, .unset, .unset, .unset] [(.long (p0 &&& (9223372036854775807 : Int64)))])) (fun t k => XS.land X0.here hx rfl (hb hby at_4) rfl k) ?_
  refine own_st (fr' := (mkF m 7 #[.val (.long p0), .second, .val (.int p1), .val (.long p2), .second, .val (.int p3), .val (.int p4), .val (.long (p0 &&& (9223372036854775807 : Int64))), .second, .unset, .unset, .unset, .unset, .unset, .unset, .unset, .unset, .unset, .unset] [])) (fun t k => XS.lstore X0.here hx rfl (hb hby at_5) rfl  (l' := #[.val (.long p0), .second, .val (.int p1), .val (.long p2), .second, .val (.int p3), .val (.int p4), .val (.long (p0 &&& (9223372036854775807 : Int64))), .second, .unset, .unset, .unset, .unset, .unset, .unset, .unset, .unset, .unset, .unset]) rfl k) ?_
  refine own_st (fr' := (mkF m 8 #[.val (.long p0), .second, .val (.int p1), .val (.long p2), .second, .val (.int p3), .val (.int p4), .val (.long (p0 &&& (9223372036854775807 : Int64))), .second, .unset, .unset, .unset, .unset, .unset, .unset, .unset, .unset, .unset, .unset] [(.int p1)])) (fun t k => XS.iloadN X0.here hx rfl (hb hby at_7) rfl  k) ?_
  refine own_st (fr' := (mkF m 10 #[.val (.long p0), .second, .val (.int p1), .val (.long p2), .second, .val (.int p3), .val (.int p4), .val (.long (p0 &&& (9223372036854775807 : Int64))), .second, .unset, .unset, .unset, .unset, .unset, .unset, .unset, .unset, .unset, .unset] [(.int (2147483647 : Int32)), (.int p1)])) (fun t k => X0.ldcInt hx hown (mvT hZ (hw _ (List.mem_of_getElem? (i := 1) rfl))) (g := (mkF m 8 #[.val (.long p0), .second, .val (.int p1), .val (.long p2), .second, .val (.int p3), .val (.int p4), .val (.long (p0 &&& (9223372036854775807 : Int64))), .second, .unset, .unset, .unset, .unset, .unset, .unset, .unset, .unset, .unset, .unset] [(.int p1)])) rfl (hb hby at_8) t k) ?_
  refine own_st (fr' := (mkF m 11 #[.val (.long p0), .second, .val (.int p1), .val (.long p2), .second, .val (.int p3), .val (.int p4), .val (.long (p0 &&& (9223372036854775807 : Int64))), .second, .unset, .unset, .unset, .unset, .unset, .unset, .unset, .unset, .unset, .unset] [(.int (p1 &&& (2147483647 : Int32)))])) (fun t k => XS.iand X0.here hx rfl (hb hby at_10) rfl k) ?_
  refine own_st (fr' := (mkF m 13 #[.val (.long p0), .second, .val (.int p1), .val (.long p2), .second, .val (.int p3), .val (.int p4), .val (.long (p0 &&& (9223372036854775807 : Int64))), .second, .val (.int (p1 &&& (2147483647 : Int32))), .unset, .unset, .unset, .unset, .unset, .unset, .unset, .unset, .unset] [])) (fun t k => XS.istore X0.here hx rfl (hb hby at_11) rfl  (l' := #[.val (.long p0), .second, .val (.int p1), .val (.long p2), .second, .val (.int p3), .val (.int p4), .val (.long (p0 &&& (9223372036854775807 : Int64))), .second, .val (.int (p1 &&& (2147483647 : Int32))), .unset, .unset, .unset, .unset, .unset, .unset, .unset, .unset, .unset]) rfl k) ?_
  have qa := c_maskL p0 9223372036854775807 63 (by decide) (by decide)
  have qt := c_and p1 2147483647 (by decide)
  have qb := c_maskL p2 9223372036854775807 63 (by decide) (by decide)
  have qs := c_and p3 2147483647 (by decide)
  generalize (p0 &&& (9223372036854775807 : Int64)) = A at qa ⊢
  generalize (p1 &&& (2147483647 : Int32)) = TA at qt ⊢
  have hA : 0 ≤ A.toInt := by omega
  have hT : 0 ≤ TA.toInt := qt.1
  refine own_st (fr' := (mkF m 15 #[.val (.long p0), .second, .val (.int p1), .val (.long p2), .second, .val (.int p3), .val (.int p4), .val (.long A), .second, .val (.int TA), .unset, .unset, .unset, .unset, .unset, .unset, .unset, .unset, .unset] [(.int p4)])) (fun t k => XS.iload X0.here hx rfl (hb hby at_13) rfl  k) ?_
  refine own_st (fr' := (mkF m 16 #[.val (.long p0), .second, .val (.int p1), .val (.long p2), .second, .val (.int p3), .val (.int p4), .val (.long A), .second, .val (.int TA), .unset, .unset, .unset, .unset, .unset, .unset, .unset, .unset, .unset] [(.int (1 : Int32)), (.int p4)])) (fun t k => XS.iconst X0.here hx rfl (hb hby at_15) k) ?_
  refine own_st (fr' := (mkF m 17 #[.val (.long p0), .second, .val (.int p1), .val (.long p2), .second, .val (.int p3), .val (.int p4), .val (.long A), .second, .val (.int TA), .unset, .unset, .unset, .unset, .unset, .unset, .unset, .unset, .unset] [(.int (p4 &&& (1 : Int32)))])) (fun t k => XS.iand X0.here hx rfl (hb hby at_16) rfl k) ?_
  suffices J30 : ∀ (z32_0 : Int64), (0 ≤ z32_0.toInt) → Go p e below s room_1.cells room_1.slots (Q_law Z p0 p1 p2 p3 p4 caI fcI caL fcL h0 n0) s₁ (mkF m 30 #[.val (.long p0), .second, .val (.int p1), .val (.long p2), .second, .val (.int p3), .val (.int p4), .val (.long A), .second, .val (.int TA), .unset, .unset, .unset, .unset, .unset, .unset, .unset, .unset, .unset] [(.long z32_0)]) by
    by_cases hc31 : (p4 &&& (1 : Int32)).toInt = 0
    · refine own_st (fr' := (mkF m 25 #[.val (.long p0), .second, .val (.int p1), .val (.long p2), .second, .val (.int p3), .val (.int p4), .val (.long A), .second, .val (.int TA), .unset, .unset, .unset, .unset, .unset, .unset, .unset, .unset, .unset] [])) (fun t k => XS.ifYes X0.here hx rfl (pc0 := 17) (pc' := 25) rfl (hb hby at_17) rfl ((if0 _ _).trans (own_teq (x := (p4 &&& (1 : Int32))) (y := (0 : Int32)) hc31).1) (by decide) (by decide) k) ?_
      refine own_st (fr' := (mkF m 26 #[.val (.long p0), .second, .val (.int p1), .val (.long p2), .second, .val (.int p3), .val (.int p4), .val (.long A), .second, .val (.int TA), .unset, .unset, .unset, .unset, .unset, .unset, .unset, .unset, .unset] [(.long p2)])) (fun t k => XS.lloadN X0.here hx rfl (hb hby at_25) rfl  k) ?_
      refine own_st (fr' := (mkF m 29 #[.val (.long p0), .second, .val (.int p1), .val (.long p2), .second, .val (.int p3), .val (.int p4), .val (.long A), .second, .val (.int TA), .unset, .unset, .unset, .unset, .unset, .unset, .unset, .unset, .unset] [(.long (9223372036854775807 : Int64)), (.long p2)])) (fun t k => X0.ldc2Long hx hown (mvT hZ (hw _ (List.mem_of_getElem? (i := 0) rfl))) (g := (mkF m 26 #[.val (.long p0), .second, .val (.int p1), .val (.long p2), .second, .val (.int p3), .val (.int p4), .val (.long A), .second, .val (.int TA), .unset, .unset, .unset, .unset, .unset, .unset, .unset, .unset, .unset] [(.long p2)])) rfl (hb hby at_26) t k) ?_
      refine own_st (fr' := (mkF m 30 #[.val (.long p0), .second, .val (.int p1), .val (.long p2), .second, .val (.int p3), .val (.int p4), .val (.long A), .second, .val (.int TA), .unset, .unset, .unset, .unset, .unset, .unset, .unset, .unset, .unset] [(.long (p2 &&& (9223372036854775807 : Int64)))])) (fun t k => XS.land X0.here hx rfl (hb hby at_29) rfl k) ?_
      exact J30  (p2 &&& (9223372036854775807 : Int64)) (show 0 ≤ (p2 &&& (9223372036854775807 : Int64)).toInt from by omega)
    · refine own_st (fr' := (mkF m 20 #[.val (.long p0), .second, .val (.int p1), .val (.long p2), .second, .val (.int p3), .val (.int p4), .val (.long A), .second, .val (.int TA), .unset, .unset, .unset, .unset, .unset, .unset, .unset, .unset, .unset] [])) (fun t k => XS.ifNo X0.here hx rfl (hb hby at_17) rfl ((if0 _ _).trans (own_feq (x := (p4 &&& (1 : Int32))) (y := (0 : Int32)) hc31).1) k) ?_
      refine own_st (fr' := (mkF m 22 #[.val (.long p0), .second, .val (.int p1), .val (.long p2), .second, .val (.int p3), .val (.int p4), .val (.long A), .second, .val (.int TA), .unset, .unset, .unset, .unset, .unset, .unset, .unset, .unset, .unset] [(.long A)])) (fun t k => XS.lload X0.here hx rfl (hb hby at_20) rfl  k) ?_
      refine own_st (fr' := (mkF m 30 #[.val (.long p0), .second, .val (.int p1), .val (.long p2), .second, .val (.int p3), .val (.int p4), .val (.long A), .second, .val (.int TA), .unset, .unset, .unset, .unset, .unset, .unset, .unset, .unset, .unset] [(.long A)])) (fun t k => XS.goto X0.here hx rfl (pc0 := 22) (pc' := 30) rfl (hb hby at_22) (by decide) (by decide) k) ?_
      exact J30  A (show 0 ≤ A.toInt from by omega)
  intro z32_0 hz32
  refine own_st (fr' := (mkF m 32 #[.val (.long p0), .second, .val (.int p1), .val (.long p2), .second, .val (.int p3), .val (.int p4), .val (.long A), .second, .val (.int TA), .val (.long z32_0), .second, .unset, .unset, .unset, .unset, .unset, .unset, .unset] [])) (fun t k => XS.lstore X0.here hx rfl (hb hby at_30) rfl  (l' := #[.val (.long p0), .second, .val (.int p1), .val (.long p2), .second, .val (.int p3), .val (.int p4), .val (.long A), .second, .val (.int TA), .val (.long z32_0), .second, .unset, .unset, .unset, .unset, .unset, .unset, .unset]) rfl k) ?_
  refine own_st (fr' := (mkF m 34 #[.val (.long p0), .second, .val (.int p1), .val (.long p2), .second, .val (.int p3), .val (.int p4), .val (.long A), .second, .val (.int TA), .val (.long z32_0), .second, .unset, .unset, .unset, .unset, .unset, .unset, .unset] [(.int p4)])) (fun t k => XS.iload X0.here hx rfl (hb hby at_32) rfl  k) ?_
  refine own_st (fr' := (mkF m 35 #[.val (.long p0), .second, .val (.int p1), .val (.long p2), .second, .val (.int p3), .val (.int p4), .val (.long A), .second, .val (.int TA), .val (.long z32_0), .second, .unset, .unset, .unset, .unset, .unset, .unset, .unset] [(.int (2 : Int32)), (.int p4)])) (fun t k => XS.iconst X0.here hx rfl (hb hby at_34) k) ?_
  refine own_st (fr' := (mkF m 36 #[.val (.long p0), .second, .val (.int p1), .val (.long p2), .second, .val (.int p3), .val (.int p4), .val (.long A), .second, .val (.int TA), .val (.long z32_0), .second, .unset, .unset, .unset, .unset, .unset, .unset, .unset] [(.int (p4 &&& (2 : Int32)))])) (fun t k => XS.iand X0.here hx rfl (hb hby at_35) rfl k) ?_
  suffices J33 : ∀ (z35_0 : Int32), (0 ≤ z35_0.toInt) → Go p e below s room_1.cells room_1.slots (Q_law Z p0 p1 p2 p3 p4 caI fcI caL fcL h0 n0) s₁ (mkF m 49 #[.val (.long p0), .second, .val (.int p1), .val (.long p2), .second, .val (.int p3), .val (.int p4), .val (.long A), .second, .val (.int TA), .val (.long z32_0), .second, .unset, .unset, .unset, .unset, .unset, .unset, .unset] [(.int z35_0)]) by
    by_cases hc34 : (p4 &&& (2 : Int32)).toInt = 0
    · refine own_st (fr' := (mkF m 44 #[.val (.long p0), .second, .val (.int p1), .val (.long p2), .second, .val (.int p3), .val (.int p4), .val (.long A), .second, .val (.int TA), .val (.long z32_0), .second, .unset, .unset, .unset, .unset, .unset, .unset, .unset] [])) (fun t k => XS.ifYes X0.here hx rfl (pc0 := 36) (pc' := 44) rfl (hb hby at_36) rfl ((if0 _ _).trans (own_teq (x := (p4 &&& (2 : Int32))) (y := (0 : Int32)) hc34).1) (by decide) (by decide) k) ?_
      refine own_st (fr' := (mkF m 46 #[.val (.long p0), .second, .val (.int p1), .val (.long p2), .second, .val (.int p3), .val (.int p4), .val (.long A), .second, .val (.int TA), .val (.long z32_0), .second, .unset, .unset, .unset, .unset, .unset, .unset, .unset] [(.int p3)])) (fun t k => XS.iload X0.here hx rfl (hb hby at_44) rfl  k) ?_
      refine own_st (fr' := (mkF m 48 #[.val (.long p0), .second, .val (.int p1), .val (.long p2), .second, .val (.int p3), .val (.int p4), .val (.long A), .second, .val (.int TA), .val (.long z32_0), .second, .unset, .unset, .unset, .unset, .unset, .unset, .unset] [(.int (2147483647 : Int32)), (.int p3)])) (fun t k => X0.ldcInt hx hown (mvT hZ (hw _ (List.mem_of_getElem? (i := 1) rfl))) (g := (mkF m 46 #[.val (.long p0), .second, .val (.int p1), .val (.long p2), .second, .val (.int p3), .val (.int p4), .val (.long A), .second, .val (.int TA), .val (.long z32_0), .second, .unset, .unset, .unset, .unset, .unset, .unset, .unset] [(.int p3)])) rfl (hb hby at_46) t k) ?_
      refine own_st (fr' := (mkF m 49 #[.val (.long p0), .second, .val (.int p1), .val (.long p2), .second, .val (.int p3), .val (.int p4), .val (.long A), .second, .val (.int TA), .val (.long z32_0), .second, .unset, .unset, .unset, .unset, .unset, .unset, .unset] [(.int (p3 &&& (2147483647 : Int32)))])) (fun t k => XS.iand X0.here hx rfl (hb hby at_48) rfl k) ?_
      exact J33  (p3 &&& (2147483647 : Int32)) (show 0 ≤ (p3 &&& (2147483647 : Int32)).toInt from by omega)
    · refine own_st (fr' := (mkF m 39 #[.val (.long p0), .second, .val (.int p1), .val (.long p2), .second, .val (.int p3), .val (.int p4), .val (.long A), .second, .val (.int TA), .val (.long z32_0), .second, .unset, .unset, .unset, .unset, .unset, .unset, .unset] [])) (fun t k => XS.ifNo X0.here hx rfl (hb hby at_36) rfl ((if0 _ _).trans (own_feq (x := (p4 &&& (2 : Int32))) (y := (0 : Int32)) hc34).1) k) ?_
      refine own_st (fr' := (mkF m 41 #[.val (.long p0), .second, .val (.int p1), .val (.long p2), .second, .val (.int p3), .val (.int p4), .val (.long A), .second, .val (.int TA), .val (.long z32_0), .second, .unset, .unset, .unset, .unset, .unset, .unset, .unset] [(.int TA)])) (fun t k => XS.iload X0.here hx rfl (hb hby at_39) rfl  k) ?_
      refine own_st (fr' := (mkF m 49 #[.val (.long p0), .second, .val (.int p1), .val (.long p2), .second, .val (.int p3), .val (.int p4), .val (.long A), .second, .val (.int TA), .val (.long z32_0), .second, .unset, .unset, .unset, .unset, .unset, .unset, .unset] [(.int TA)])) (fun t k => XS.goto X0.here hx rfl (pc0 := 41) (pc' := 49) rfl (hb hby at_41) (by decide) (by decide) k) ?_
      exact J33  TA (show 0 ≤ TA.toInt from by omega)
  intro z35_0 hz35
  refine own_st (fr' := (mkF m 51 #[.val (.long p0), .second, .val (.int p1), .val (.long p2), .second, .val (.int p3), .val (.int p4), .val (.long A), .second, .val (.int TA), .val (.long z32_0), .second, .val (.int z35_0), .unset, .unset, .unset, .unset, .unset, .unset] [])) (fun t k => XS.istore X0.here hx rfl (hb hby at_49) rfl  (l' := #[.val (.long p0), .second, .val (.int p1), .val (.long p2), .second, .val (.int p3), .val (.int p4), .val (.long A), .second, .val (.int TA), .val (.long z32_0), .second, .val (.int z35_0), .unset, .unset, .unset, .unset, .unset, .unset]) rfl k) ?_
  refine own_st (fr' := (mkF m 53 #[.val (.long p0), .second, .val (.int p1), .val (.long p2), .second, .val (.int p3), .val (.int p4), .val (.long A), .second, .val (.int TA), .val (.long z32_0), .second, .val (.int z35_0), .unset, .unset, .unset, .unset, .unset, .unset] [(.int p4)])) (fun t k => XS.iload X0.here hx rfl (hb hby at_51) rfl  k) ?_
  refine own_st (fr' := (mkF m 54 #[.val (.long p0), .second, .val (.int p1), .val (.long p2), .second, .val (.int p3), .val (.int p4), .val (.long A), .second, .val (.int TA), .val (.long z32_0), .second, .val (.int z35_0), .unset, .unset, .unset, .unset, .unset, .unset] [(.int (2 : Int32)), (.int p4)])) (fun t k => XS.iconst X0.here hx rfl (hb hby at_53) k) ?_
  refine own_st (fr' := (mkF m 55 #[.val (.long p0), .second, .val (.int p1), .val (.long p2), .second, .val (.int p3), .val (.int p4), .val (.long A), .second, .val (.int TA), .val (.long z32_0), .second, .val (.int z35_0), .unset, .unset, .unset, .unset, .unset, .unset] [(.int ((p4.toUInt32 >>> ((2 : Int32) &&& 31).toUInt32).toInt32))])) (fun t k => XS.iushr X0.here hx rfl (hb hby at_54) rfl k) ?_
  refine own_st (fr' := (mkF m 56 #[.val (.long p0), .second, .val (.int p1), .val (.long p2), .second, .val (.int p3), .val (.int p4), .val (.long A), .second, .val (.int TA), .val (.long z32_0), .second, .val (.int z35_0), .unset, .unset, .unset, .unset, .unset, .unset] [(.int (3 : Int32)), (.int ((p4.toUInt32 >>> ((2 : Int32) &&& 31).toUInt32).toInt32))])) (fun t k => XS.iconst X0.here hx rfl (hb hby at_55) k) ?_
  refine own_st (fr' := (mkF m 57 #[.val (.long p0), .second, .val (.int p1), .val (.long p2), .second, .val (.int p3), .val (.int p4), .val (.long A), .second, .val (.int TA), .val (.long z32_0), .second, .val (.int z35_0), .unset, .unset, .unset, .unset, .unset, .unset] [(.int (((p4.toUInt32 >>> ((2 : Int32) &&& 31).toUInt32).toInt32) &&& (3 : Int32)))])) (fun t k => XS.iand X0.here hx rfl (hb hby at_56) rfl k) ?_
  refine own_st (fr' := (mkF m 59 #[.val (.long p0), .second, .val (.int p1), .val (.long p2), .second, .val (.int p3), .val (.int p4), .val (.long A), .second, .val (.int TA), .val (.long z32_0), .second, .val (.int z35_0), .val (.int (((p4.toUInt32 >>> ((2 : Int32) &&& 31).toUInt32).toInt32) &&& (3 : Int32))), .unset, .unset, .unset, .unset, .unset] [])) (fun t k => XS.istore X0.here hx rfl (hb hby at_57) rfl  (l' := #[.val (.long p0), .second, .val (.int p1), .val (.long p2), .second, .val (.int p3), .val (.int p4), .val (.long A), .second, .val (.int TA), .val (.long z32_0), .second, .val (.int z35_0), .val (.int (((p4.toUInt32 >>> ((2 : Int32) &&& 31).toUInt32).toInt32) &&& (3 : Int32))), .unset, .unset, .unset, .unset, .unset]) rfl k) ?_
  have qk := c_and (((p4.toUInt32 >>> ((2 : Int32) &&& 31).toUInt32).toInt32)) 3 (by decide)
  have k3 : (3 : Int32).toInt = 3 := rfl
  generalize (((p4.toUInt32 >>> ((2 : Int32) &&& 31).toUInt32).toInt32) &&& (3 : Int32)) = kd at qk ⊢
  obtain ⟨T36, h36, X36, e36, E36, A36, D36, -, st36⟩ := newO X0 hx hZ hown (hw _ (List.mem_of_getElem? (i := 2) rfl)) (hw _ (List.mem_of_getElem? (i := 3) rfl)) (hw _ (List.mem_of_getElem? (i := 4) rfl)) e0 (g := (mkF m 59 #[.val (.long p0), .second, .val (.int p1), .val (.long p2), .second, .val (.int p3), .val (.int p4), .val (.long A), .second, .val (.int TA), .val (.long z32_0), .second, .val (.int z35_0), .val (.int kd), .unset, .unset, .unset, .unset, .unset] [])) rfl (hb hby at_59) (by decide) (by decide)
  obtain ⟨b36, g36⟩ : ∃ z, z = h0.size := ⟨_, rfl⟩
  rw [← g36] at A36 D36 st36
  have ne36_caI : caI ≠ b36 := Nat.ne_of_lt (Nat.lt_of_lt_of_eq V_cI.lt g36.symm)
  have ne36_caL : caL ≠ b36 := Nat.ne_of_lt (Nat.lt_of_lt_of_eq V_cL.lt g36.symm)
  have ge_b36 : n0 ≤ b36 := Nat.le_trans Z0 (Nat.le_of_eq g36.symm)
  have sz_b36 : h0.size ≤ b36 := Nat.le_trans (Keep.refl h0 []).1 (Nat.le_of_eq g36.symm)
  have F36_delay : Fld Z h36 b36 "com/example/timed_net_processes/timednetprocesses/Step" "delay" "J" (.long (0 : Int64)) := D36 (Or.inr (hw _ (List.mem_of_getElem? (i := 12) rfl))) (ty := .long) (by decide)
  have F36_transition : Fld Z h36 b36 "com/example/timed_net_processes/timednetprocesses/Step" "transition" "I" (.int (0 : Int32)) := D36 (Or.inr (hw _ (List.mem_of_getElem? (i := 14) rfl))) (ty := .int) (by decide)
  refine own_st (fr' := (mkF m 62 #[.val (.long p0), .second, .val (.int p1), .val (.long p2), .second, .val (.int p3), .val (.int p4), .val (.long A), .second, .val (.int TA), .val (.long z32_0), .second, .val (.int z35_0), .val (.int kd), .unset, .unset, .unset, .unset, .unset] [(.ref b36)])) st36 ?_
  refine own_st (fr' := (mkF m 63 #[.val (.long p0), .second, .val (.int p1), .val (.long p2), .second, .val (.int p3), .val (.int p4), .val (.long A), .second, .val (.int TA), .val (.long z32_0), .second, .val (.int z35_0), .val (.int kd), .unset, .unset, .unset, .unset, .unset] [(.ref b36), (.ref b36)])) (fun t k => XS.dup X36.here hx rfl (hb hby at_62) rfl rfl k) ?_
  refine own_st (fr' := (mkF m 65 #[.val (.long p0), .second, .val (.int p1), .val (.long p2), .second, .val (.int p3), .val (.int p4), .val (.long A), .second, .val (.int TA), .val (.long z32_0), .second, .val (.int z35_0), .val (.int kd), .unset, .unset, .unset, .unset, .unset] [(.long A), (.ref b36), (.ref b36)])) (fun t k => XS.lload X36.here hx rfl (hb hby at_63) rfl  k) ?_
  refine own_st (fr' := (mkF m 67 #[.val (.long p0), .second, .val (.int p1), .val (.long p2), .second, .val (.int p3), .val (.int p4), .val (.long A), .second, .val (.int TA), .val (.long z32_0), .second, .val (.int z35_0), .val (.int kd), .unset, .unset, .unset, .unset, .unset] [(.int TA), (.long A), (.ref b36), (.ref b36)])) (fun t k => XS.iload X36.here hx rfl (hb hby at_65) rfl  k) ?_
  refine own_callN X36 hx hZ (y := (⟨"com/example/timed_net_processes/timednetprocesses/Step", "<init>", "(JI)V"⟩ : MethodName)) hown rfl (hw _ (List.mem_of_getElem? (i := 5) rfl)) (hw _ (List.mem_of_getElem? (i := 6) rfl)) (hw _ (List.mem_of_getElem? (i := 4) rfl)) (hw _ (List.mem_of_getElem? (i := 7) rfl)) (by decide) (a := b36) (argsL := [(.long A), (.int TA)]) (rest := [(.ref b36)]) (W := 1) (rm_init l Z a0 hw [] b36 A TA h36 n0 (Nat.le_trans Z0 E36.1) F36_delay F36_transition A36 ge_b36 hA hT) e36 (by rw [hml]; rfl) (lenOf pd_3 rfl) rfl (Nat.le_of_eq rfl) (hb hby at_67) (by decide) (by decide) (by decide) (by decide) ?_
  intro v37 T37 L37 X37 hQ37
  obtain ⟨rfl, Nq37, K37, Fc37_0, Fc37_1⟩ := hQ37
  have N37 := Fr.app N0 Nq37
  refine own_st (fr' := (mkF m 72 #[.val (.long p0), .second, .val (.int p1), .val (.long p2), .second, .val (.int p3), .val (.int p4), .val (.long A), .second, .val (.int TA), .val (.long z32_0), .second, .val (.int z35_0), .val (.int kd), .val (.ref b36), .unset, .unset, .unset, .unset] [])) (fun t k => XS.astore X37.here hx rfl (hb hby at_70) rfl rfl (l' := #[.val (.long p0), .second, .val (.int p1), .val (.long p2), .second, .val (.int p3), .val (.int p4), .val (.long A), .second, .val (.int TA), .val (.long z32_0), .second, .val (.int z35_0), .val (.int kd), .val (.ref b36), .unset, .unset, .unset, .unset]) rfl k) ?_
  obtain ⟨T38, h38, X38, e38, E38, A38, D38, -, st38⟩ := newO X37 hx hZ hown (hw _ (List.mem_of_getElem? (i := 2) rfl)) (hw _ (List.mem_of_getElem? (i := 3) rfl)) (hw _ (List.mem_of_getElem? (i := 4) rfl)) rfl (g := (mkF m 72 #[.val (.long p0), .second, .val (.int p1), .val (.long p2), .second, .val (.int p3), .val (.int p4), .val (.long A), .second, .val (.int TA), .val (.long z32_0), .second, .val (.int z35_0), .val (.int kd), .val (.ref b36), .unset, .unset, .unset, .unset] [])) rfl (hb hby at_72) (by decide) (by decide)
  obtain ⟨b38, g38⟩ : ∃ z, z = T37.heap.size := ⟨_, rfl⟩
  rw [← g38] at A38 D38 st38
  have ne38_caI : caI ≠ b38 := Nat.ne_of_lt (Nat.lt_of_lt_of_eq ((V_cI.ext E36).keep K37 (ninS ne36_caI nin0)).lt g38.symm)
  have ne38_caL : caL ≠ b38 := Nat.ne_of_lt (Nat.lt_of_lt_of_eq ((V_cL.ext E36).keep K37 (ninS ne36_caL nin0)).lt g38.symm)
  have ne38_b36 : b36 ≠ b38 := Nat.ne_of_lt (Nat.lt_of_lt_of_eq (A36.keep K37).lt g38.symm)
  have ge_b38 : n0 ≤ b38 := Nat.le_trans (Nat.le_trans (Nat.le_trans Z0 E36.1) K37.1) (Nat.le_of_eq g38.symm)
  have sz_b38 : h0.size ≤ b38 := Nat.le_trans (Keep.trans (Keep.ext (Keep.refl h0 []) E36) K37 (allS (Or.inr sz_b36) all0)).1 (Nat.le_of_eq g38.symm)
  have F38_delay : Fld Z h38 b38 "com/example/timed_net_processes/timednetprocesses/Step" "delay" "J" (.long (0 : Int64)) := D38 (Or.inr (hw _ (List.mem_of_getElem? (i := 12) rfl))) (ty := .long) (by decide)
  have F38_transition : Fld Z h38 b38 "com/example/timed_net_processes/timednetprocesses/Step" "transition" "I" (.int (0 : Int32)) := D38 (Or.inr (hw _ (List.mem_of_getElem? (i := 14) rfl))) (ty := .int) (by decide)
  refine own_st (fr' := (mkF m 75 #[.val (.long p0), .second, .val (.int p1), .val (.long p2), .second, .val (.int p3), .val (.int p4), .val (.long A), .second, .val (.int TA), .val (.long z32_0), .second, .val (.int z35_0), .val (.int kd), .val (.ref b36), .unset, .unset, .unset, .unset] [(.ref b38)])) st38 ?_
  refine own_st (fr' := (mkF m 76 #[.val (.long p0), .second, .val (.int p1), .val (.long p2), .second, .val (.int p3), .val (.int p4), .val (.long A), .second, .val (.int TA), .val (.long z32_0), .second, .val (.int z35_0), .val (.int kd), .val (.ref b36), .unset, .unset, .unset, .unset] [(.ref b38), (.ref b38)])) (fun t k => XS.dup X38.here hx rfl (hb hby at_75) rfl rfl k) ?_
  refine own_st (fr' := (mkF m 78 #[.val (.long p0), .second, .val (.int p1), .val (.long p2), .second, .val (.int p3), .val (.int p4), .val (.long A), .second, .val (.int TA), .val (.long z32_0), .second, .val (.int z35_0), .val (.int kd), .val (.ref b36), .unset, .unset, .unset, .unset] [(.long z32_0), (.ref b38), (.ref b38)])) (fun t k => XS.lload X38.here hx rfl (hb hby at_76) rfl  k) ?_
  refine own_st (fr' := (mkF m 80 #[.val (.long p0), .second, .val (.int p1), .val (.long p2), .second, .val (.int p3), .val (.int p4), .val (.long A), .second, .val (.int TA), .val (.long z32_0), .second, .val (.int z35_0), .val (.int kd), .val (.ref b36), .unset, .unset, .unset, .unset] [(.int z35_0), (.long z32_0), (.ref b38), (.ref b38)])) (fun t k => XS.iload X38.here hx rfl (hb hby at_78) rfl  k) ?_
  refine own_callN X38 hx hZ (y := (⟨"com/example/timed_net_processes/timednetprocesses/Step", "<init>", "(JI)V"⟩ : MethodName)) hown rfl (hw _ (List.mem_of_getElem? (i := 5) rfl)) (hw _ (List.mem_of_getElem? (i := 6) rfl)) (hw _ (List.mem_of_getElem? (i := 4) rfl)) (hw _ (List.mem_of_getElem? (i := 7) rfl)) (by decide) (a := b38) (argsL := [(.long z32_0), (.int z35_0)]) (rest := [(.ref b38)]) (W := 1) (rm_init l Z a0 hw [] b38 z32_0 z35_0 h38 n0 (Nat.le_trans (Nat.le_trans (Nat.le_trans Z0 E36.1) K37.1) E38.1) F38_delay F38_transition A38 ge_b38 hz32 hz35) e38 (by rw [hml]; rfl) (lenOf pd_3 rfl) rfl (Nat.le_of_eq rfl) (hb hby at_80) (by decide) (by decide) (by decide) (by decide) ?_
  intro v39 T39 L39 X39 hQ39
  obtain ⟨rfl, Nq39, K39, Fc39_0, Fc39_1⟩ := hQ39
  have N39 := Fr.app N37 Nq39
  refine own_st (fr' := (mkF m 85 #[.val (.long p0), .second, .val (.int p1), .val (.long p2), .second, .val (.int p3), .val (.int p4), .val (.long A), .second, .val (.int TA), .val (.long z32_0), .second, .val (.int z35_0), .val (.int kd), .val (.ref b36), .val (.ref b38), .unset, .unset, .unset] [])) (fun t k => XS.astore X39.here hx rfl (hb hby at_83) rfl rfl (l' := #[.val (.long p0), .second, .val (.int p1), .val (.long p2), .second, .val (.int p3), .val (.int p4), .val (.long A), .second, .val (.int TA), .val (.long z32_0), .second, .val (.int z35_0), .val (.int kd), .val (.ref b36), .val (.ref b38), .unset, .unset, .unset]) rfl k) ?_
  refine own_st (fr' := (mkF m 87 #[.val (.long p0), .second, .val (.int p1), .val (.long p2), .second, .val (.int p3), .val (.int p4), .val (.long A), .second, .val (.int TA), .val (.long z32_0), .second, .val (.int z35_0), .val (.int kd), .val (.ref b36), .val (.ref b38), .unset, .unset, .unset] [(.ref b38)])) (fun t k => XS.aload X39.here hx rfl (hb hby at_85) rfl rfl k) ?_
  refine own_st (fr' := (mkF m 89 #[.val (.long p0), .second, .val (.int p1), .val (.long p2), .second, .val (.int p3), .val (.int p4), .val (.long A), .second, .val (.int TA), .val (.long z32_0), .second, .val (.int z35_0), .val (.int kd), .val (.ref b36), .val (.ref b38), .val (.ref b38), .unset, .unset] [])) (fun t k => XS.astore X39.here hx rfl (hb hby at_87) rfl rfl (l' := #[.val (.long p0), .second, .val (.int p1), .val (.long p2), .second, .val (.int p3), .val (.int p4), .val (.long A), .second, .val (.int TA), .val (.long z32_0), .second, .val (.int z35_0), .val (.int kd), .val (.ref b36), .val (.ref b38), .val (.ref b38), .unset, .unset]) rfl k) ?_
  refine own_st (fr' := (mkF m 91 #[.val (.long p0), .second, .val (.int p1), .val (.long p2), .second, .val (.int p3), .val (.int p4), .val (.long A), .second, .val (.int TA), .val (.long z32_0), .second, .val (.int z35_0), .val (.int kd), .val (.ref b36), .val (.ref b38), .val (.ref b38), .unset, .unset] [(.int kd)])) (fun t k => XS.iload X39.here hx rfl (hb hby at_89) rfl  k) ?_
  refine own_st (fr' := (mkF m 92 #[.val (.long p0), .second, .val (.int p1), .val (.long p2), .second, .val (.int p3), .val (.int p4), .val (.long A), .second, .val (.int TA), .val (.long z32_0), .second, .val (.int z35_0), .val (.int kd), .val (.ref b36), .val (.ref b38), .val (.ref b38), .unset, .unset] [(.int (1 : Int32)), (.int kd)])) (fun t k => XS.iconst X39.here hx rfl (hb hby at_91) k) ?_
  by_cases hk1 : kd.toInt = 1
  · refine own_st (fr' := (mkF m 95 #[.val (.long p0), .second, .val (.int p1), .val (.long p2), .second, .val (.int p3), .val (.int p4), .val (.long A), .second, .val (.int TA), .val (.long z32_0), .second, .val (.int z35_0), .val (.int kd), .val (.ref b36), .val (.ref b38), .val (.ref b38), .unset, .unset] [])) (fun t k => XS.icmpNo X39.here hx rfl (hb hby at_92) rfl (own_teq (x := kd) (y := (1 : Int32)) hk1).2 k) ?_
    refine own_st (fr' := (mkF m 96 #[.val (.long p0), .second, .val (.int p1), .val (.long p2), .second, .val (.int p3), .val (.int p4), .val (.long A), .second, .val (.int TA), .val (.long z32_0), .second, .val (.int z35_0), .val (.int kd), .val (.ref b36), .val (.ref b38), .val (.ref b38), .unset, .unset] [.null])) (fun t k => XS.aconstNull X39.here hx rfl (hb hby at_95) k) ?_
    refine own_st (fr' := (mkF m 98 #[.val (.long p0), .second, .val (.int p1), .val (.long p2), .second, .val (.int p3), .val (.int p4), .val (.long A), .second, .val (.int TA), .val (.long z32_0), .second, .val (.int z35_0), .val (.int kd), .val (.ref b36), .val (.ref b38), .val .null, .unset, .unset] [])) (fun t k => XS.astore X39.here hx rfl (hb hby at_96) rfl rfl (l' := #[.val (.long p0), .second, .val (.int p1), .val (.long p2), .second, .val (.int p3), .val (.int p4), .val (.long A), .second, .val (.int TA), .val (.long z32_0), .second, .val (.int z35_0), .val (.int kd), .val (.ref b36), .val (.ref b38), .val .null, .unset, .unset]) rfl k) ?_
    refine own_st (fr' := (mkF m 130 #[.val (.long p0), .second, .val (.int p1), .val (.long p2), .second, .val (.int p3), .val (.int p4), .val (.long A), .second, .val (.int TA), .val (.long z32_0), .second, .val (.int z35_0), .val (.int kd), .val (.ref b36), .val (.ref b38), .val .null, .unset, .unset] [])) (fun t k => XS.goto X39.here hx rfl (pc0 := 98) (pc' := 130) rfl (hb hby at_98) (by decide) (by decide) k) ?_
    refine own_st (fr' := (mkF m 132 #[.val (.long p0), .second, .val (.int p1), .val (.long p2), .second, .val (.int p3), .val (.int p4), .val (.long A), .second, .val (.int TA), .val (.long z32_0), .second, .val (.int z35_0), .val (.int kd), .val (.ref b36), .val (.ref b38), .val .null, .unset, .unset] [(.int kd)])) (fun t k => XS.iload X39.here hx rfl (hb hby at_130) rfl  k) ?_
    refine own_st (fr' := (mkF m 154 #[.val (.long p0), .second, .val (.int p1), .val (.long p2), .second, .val (.int p3), .val (.int p4), .val (.long A), .second, .val (.int TA), .val (.long z32_0), .second, .val (.int z35_0), .val (.int kd), .val (.ref b36), .val (.ref b38), .val .null, .unset, .unset] [])) (fun t k => XS.ifYes X39.here hx rfl (pc0 := 132) (pc' := 154) rfl (hb hby at_132) rfl ((if0 _ _).trans (own_feq (x := kd) (y := (0 : Int32)) (show ¬ kd.toInt = 0 from by omega)).2) (by decide) (by decide) k) ?_
    refine own_st (fr' := (mkF m 155 #[.val (.long p0), .second, .val (.int p1), .val (.long p2), .second, .val (.int p3), .val (.int p4), .val (.long A), .second, .val (.int TA), .val (.long z32_0), .second, .val (.int z35_0), .val (.int kd), .val (.ref b36), .val (.ref b38), .val .null, .unset, .unset] [(.int (0 : Int32))])) (fun t k => XS.iconst X39.here hx rfl (hb hby at_154) k) ?_
    refine own_st (fr' := (mkF m 157 #[.val (.long p0), .second, .val (.int p1), .val (.long p2), .second, .val (.int p3), .val (.int p4), .val (.long A), .second, .val (.int TA), .val (.long z32_0), .second, .val (.int z35_0), .val (.int kd), .val (.ref b36), .val (.ref b38), .val .null, .val (.int (0 : Int32)), .unset] [])) (fun t k => XS.istore X39.here hx rfl (hb hby at_155) rfl  (l' := #[.val (.long p0), .second, .val (.int p1), .val (.long p2), .second, .val (.int p3), .val (.int p4), .val (.long A), .second, .val (.int TA), .val (.long z32_0), .second, .val (.int z35_0), .val (.int kd), .val (.ref b36), .val (.ref b38), .val .null, .val (.int (0 : Int32)), .unset]) rfl k) ?_
    refine own_st (fr' := (mkF m 159 #[.val (.long p0), .second, .val (.int p1), .val (.long p2), .second, .val (.int p3), .val (.int p4), .val (.long A), .second, .val (.int TA), .val (.long z32_0), .second, .val (.int z35_0), .val (.int kd), .val (.ref b36), .val (.ref b38), .val .null, .val (.int (0 : Int32)), .unset] [(.ref b36)])) (fun t k => XS.aload X39.here hx rfl (hb hby at_157) rfl rfl k) ?_
    refine own_st (fr' := (mkF m 161 #[.val (.long p0), .second, .val (.int p1), .val (.long p2), .second, .val (.int p3), .val (.int p4), .val (.long A), .second, .val (.int TA), .val (.long z32_0), .second, .val (.int z35_0), .val (.int kd), .val (.ref b36), .val (.ref b38), .val .null, .val (.int (0 : Int32)), .unset] [.null, (.ref b36)])) (fun t k => XS.aload X39.here hx rfl (hb hby at_159) rfl rfl k) ?_
    refine own_callV X39 hx hZ (y := (⟨"com/example/timed_net_processes/timednetprocesses/Step", "equals", "(Ljava/lang/Object;)Z"⟩ : MethodName)) (z := (⟨"com/example/timed_net_processes/timednetprocesses/Step", "equals", "(Ljava/lang/Object;)Z"⟩ : MethodName)) hown (hw _ (List.mem_of_getElem? (i := 15) rfl)) (hw _ (List.mem_of_getElem? (i := 16) rfl)) (notFace_of_selects (args := #[]) (mvT hZ (hw _ (List.mem_of_getElem? (i := 18) rfl)))) (hw _ (List.mem_of_getElem? (i := 18) rfl)) (hw _ (List.mem_of_getElem? (i := 17) rfl)) (hw _ (List.mem_of_getElem? (i := 4) rfl)) (hw _ (List.mem_of_getElem? (i := 19) rfl)) (by decide) (a := b36) (argsL := [.null]) (rest := []) (W := 0) (rm_eqnull l Z a0 hw [] b36 T39.heap n0 (Nat.le_trans (Nat.le_trans (Nat.le_trans (Nat.le_trans Z0 E36.1) K37.1) E38.1) K39.1) ) rfl (((A36.keep K37).ext E38).keep K39) (by rw [hml]; rfl) (lenOf pd_4 rfl) rfl (Nat.le_of_eq rfl) (hb hby at_161) (by decide) (by decide) (by decide) (by decide) ?_
    intro v40 T40 L40 X40 hQ40
    obtain ⟨rfl, Nq40, eq40⟩ := hQ40
    have N40 := Fr.app N39 Nq40
    refine own_st (fr' := (mkF m 166 #[.val (.long p0), .second, .val (.int p1), .val (.long p2), .second, .val (.int p3), .val (.int p4), .val (.long A), .second, .val (.int TA), .val (.long z32_0), .second, .val (.int z35_0), .val (.int kd), .val (.ref b36), .val (.ref b38), .val .null, .val (.int (0 : Int32)), .val (.int (0 : Int32))] [])) (fun t k => XS.istore X40.here hx rfl (hb hby at_164) rfl  (l' := #[.val (.long p0), .second, .val (.int p1), .val (.long p2), .second, .val (.int p3), .val (.int p4), .val (.long A), .second, .val (.int TA), .val (.long z32_0), .second, .val (.int z35_0), .val (.int kd), .val (.ref b36), .val (.ref b38), .val .null, .val (.int (0 : Int32)), .val (.int (0 : Int32))]) rfl k) ?_
    refine own_st (fr' := (mkF m 168 #[.val (.long p0), .second, .val (.int p1), .val (.long p2), .second, .val (.int p3), .val (.int p4), .val (.long A), .second, .val (.int TA), .val (.long z32_0), .second, .val (.int z35_0), .val (.int kd), .val (.ref b36), .val (.ref b38), .val .null, .val (.int (0 : Int32)), .val (.int (0 : Int32))] [(.int (0 : Int32))])) (fun t k => XS.iload X40.here hx rfl (hb hby at_166) rfl  k) ?_
    refine own_st (fr' := (mkF m 170 #[.val (.long p0), .second, .val (.int p1), .val (.long p2), .second, .val (.int p3), .val (.int p4), .val (.long A), .second, .val (.int TA), .val (.long z32_0), .second, .val (.int z35_0), .val (.int kd), .val (.ref b36), .val (.ref b38), .val .null, .val (.int (0 : Int32)), .val (.int (0 : Int32))] [(.int (0 : Int32)), (.int (0 : Int32))])) (fun t k => XS.iload X40.here hx rfl (hb hby at_168) rfl  k) ?_
    refine own_st (fr' := (mkF m 175 #[.val (.long p0), .second, .val (.int p1), .val (.long p2), .second, .val (.int p3), .val (.int p4), .val (.long A), .second, .val (.int TA), .val (.long z32_0), .second, .val (.int z35_0), .val (.int kd), .val (.ref b36), .val (.ref b38), .val .null, .val (.int (0 : Int32)), .val (.int (0 : Int32))] [])) (fun t k => XS.icmpYes X40.here hx rfl (pc0 := 170) (pc' := 175) rfl (hb hby at_170) rfl (own_teq (x := (0 : Int32)) (y := (0 : Int32)) (show 0 = 0 from rfl)).1 (by decide) (by decide) k) ?_
    refine own_st (fr' := (mkF m 177 #[.val (.long p0), .second, .val (.int p1), .val (.long p2), .second, .val (.int p3), .val (.int p4), .val (.long A), .second, .val (.int TA), .val (.long z32_0), .second, .val (.int z35_0), .val (.int kd), .val (.ref b36), .val (.ref b38), .val .null, .val (.int (0 : Int32)), .val (.int (0 : Int32))] [(.ref b36)])) (fun t k => XS.aload X40.here hx rfl (hb hby at_175) rfl rfl k) ?_
    refine own_st (fr' := (mkF m 179 #[.val (.long p0), .second, .val (.int p1), .val (.long p2), .second, .val (.int p3), .val (.int p4), .val (.long A), .second, .val (.int TA), .val (.long z32_0), .second, .val (.int z35_0), .val (.int kd), .val (.ref b36), .val (.ref b38), .val .null, .val (.int (0 : Int32)), .val (.int (0 : Int32))] [(.ref b36), (.ref b36)])) (fun t k => XS.aload X40.here hx rfl (hb hby at_177) rfl rfl k) ?_
    refine own_callV X40 hx hZ (y := (⟨"com/example/timed_net_processes/timednetprocesses/Step", "equals", "(Ljava/lang/Object;)Z"⟩ : MethodName)) (z := (⟨"com/example/timed_net_processes/timednetprocesses/Step", "equals", "(Ljava/lang/Object;)Z"⟩ : MethodName)) hown (hw _ (List.mem_of_getElem? (i := 15) rfl)) (hw _ (List.mem_of_getElem? (i := 16) rfl)) (notFace_of_selects (args := #[]) (mvT hZ (hw _ (List.mem_of_getElem? (i := 18) rfl)))) (hw _ (List.mem_of_getElem? (i := 18) rfl)) (hw _ (List.mem_of_getElem? (i := 17) rfl)) (hw _ (List.mem_of_getElem? (i := 4) rfl)) (hw _ (List.mem_of_getElem? (i := 19) rfl)) (by decide) (a := b36) (argsL := [(.ref b36)]) (rest := []) (W := 0) (rm_eqs l Z a0 hw [] b36 b36 A TA A TA T39.heap n0 (Nat.le_trans (Nat.le_trans (Nat.le_trans (Nat.le_trans Z0 E36.1) K37.1) E38.1) K39.1) (((A36.keep K37).ext E38).keep K39) ((Fc37_0.ext E38).keep K39 (ninS ne38_b36 nin0)) ((Fc37_1.ext E38).keep K39 (ninS ne38_b36 nin0)) ((Fc37_0.ext E38).keep K39 (ninS ne38_b36 nin0)) ((Fc37_1.ext E38).keep K39 (ninS ne38_b36 nin0))) eq40 (((A36.keep K37).ext E38).keep K39) (by rw [hml]; rfl) (lenOf pd_4 rfl) rfl (Nat.le_of_eq rfl) (hb hby at_179) (by decide) (by decide) (by decide) (by decide) ?_
    intro v41 T41 L41 X41 hQ41
    obtain ⟨⟨y41, rfl, hy41⟩, Nq41, eq41⟩ := hQ41
    have N41 := Fr.app N40 Nq41
    refine own_st (fr' := (mkF m 187 #[.val (.long p0), .second, .val (.int p1), .val (.long p2), .second, .val (.int p3), .val (.int p4), .val (.long A), .second, .val (.int TA), .val (.long z32_0), .second, .val (.int z35_0), .val (.int kd), .val (.ref b36), .val (.ref b38), .val .null, .val (.int (0 : Int32)), .val (.int (0 : Int32))] [])) (fun t k => XS.ifYes X41.here hx rfl (pc0 := 182) (pc' := 187) rfl (hb hby at_182) rfl ((if0 _ _).trans (own_feq (x := y41) (y := (0 : Int32)) (show ¬ y41.toInt = 0 from by omega)).2) (by decide) (by decide) k) ?_
    refine own_st (fr' := (mkF m 189 #[.val (.long p0), .second, .val (.int p1), .val (.long p2), .second, .val (.int p3), .val (.int p4), .val (.long A), .second, .val (.int TA), .val (.long z32_0), .second, .val (.int z35_0), .val (.int kd), .val (.ref b36), .val (.ref b38), .val .null, .val (.int (0 : Int32)), .val (.int (0 : Int32))] [(.int kd)])) (fun t k => XS.iload X41.here hx rfl (hb hby at_187) rfl  k) ?_
    refine own_st (fr' := (mkF m 206 #[.val (.long p0), .second, .val (.int p1), .val (.long p2), .second, .val (.int p3), .val (.int p4), .val (.long A), .second, .val (.int TA), .val (.long z32_0), .second, .val (.int z35_0), .val (.int kd), .val (.ref b36), .val (.ref b38), .val .null, .val (.int (0 : Int32)), .val (.int (0 : Int32))] [])) (fun t k => XS.ifYes X41.here hx rfl (pc0 := 189) (pc' := 206) rfl (hb hby at_189) rfl ((if0 _ _).trans (own_feq (x := kd) (y := (0 : Int32)) (show ¬ kd.toInt = 0 from by omega)).2) (by decide) (by decide) k) ?_
    refine own_st (fr' := (mkF m 207 #[.val (.long p0), .second, .val (.int p1), .val (.long p2), .second, .val (.int p3), .val (.int p4), .val (.long A), .second, .val (.int TA), .val (.long z32_0), .second, .val (.int z35_0), .val (.int kd), .val (.ref b36), .val (.ref b38), .val .null, .val (.int (0 : Int32)), .val (.int (0 : Int32))] [(.int (1 : Int32))])) (fun t k => XS.iconst X41.here hx rfl (hb hby at_206) k) ?_
    exact own_retZ X41 hx hlk hret (Or.inr rfl) (hb hby at_207) (by decide) (by decide) (⟨rfl, N41⟩)
  · refine own_st (fr' := (mkF m 101 #[.val (.long p0), .second, .val (.int p1), .val (.long p2), .second, .val (.int p3), .val (.int p4), .val (.long A), .second, .val (.int TA), .val (.long z32_0), .second, .val (.int z35_0), .val (.int kd), .val (.ref b36), .val (.ref b38), .val (.ref b38), .unset, .unset] [])) (fun t k => XS.icmpYes X39.here hx rfl (pc0 := 92) (pc' := 101) rfl (hb hby at_92) rfl (own_feq (x := kd) (y := (1 : Int32)) hk1).2 (by decide) (by decide) k) ?_
    refine own_st (fr' := (mkF m 103 #[.val (.long p0), .second, .val (.int p1), .val (.long p2), .second, .val (.int p3), .val (.int p4), .val (.long A), .second, .val (.int TA), .val (.long z32_0), .second, .val (.int z35_0), .val (.int kd), .val (.ref b36), .val (.ref b38), .val (.ref b38), .unset, .unset] [(.int kd)])) (fun t k => XS.iload X39.here hx rfl (hb hby at_101) rfl  k) ?_
    refine own_st (fr' := (mkF m 104 #[.val (.long p0), .second, .val (.int p1), .val (.long p2), .second, .val (.int p3), .val (.int p4), .val (.long A), .second, .val (.int TA), .val (.long z32_0), .second, .val (.int z35_0), .val (.int kd), .val (.ref b36), .val (.ref b38), .val (.ref b38), .unset, .unset] [(.int (2 : Int32)), (.int kd)])) (fun t k => XS.iconst X39.here hx rfl (hb hby at_103) k) ?_
    by_cases hk2 : kd.toInt = 2
    · refine own_st (fr' := (mkF m 107 #[.val (.long p0), .second, .val (.int p1), .val (.long p2), .second, .val (.int p3), .val (.int p4), .val (.long A), .second, .val (.int TA), .val (.long z32_0), .second, .val (.int z35_0), .val (.int kd), .val (.ref b36), .val (.ref b38), .val (.ref b38), .unset, .unset] [])) (fun t k => XS.icmpNo X39.here hx rfl (hb hby at_104) rfl (own_teq (x := kd) (y := (2 : Int32)) hk2).2 k) ?_
      refine own_st (fr' := (mkF m 109 #[.val (.long p0), .second, .val (.int p1), .val (.long p2), .second, .val (.int p3), .val (.int p4), .val (.long A), .second, .val (.int TA), .val (.long z32_0), .second, .val (.int z35_0), .val (.int kd), .val (.ref b36), .val (.ref b38), .val (.ref b38), .unset, .unset] [(.long A)])) (fun t k => XS.lload X39.here hx rfl (hb hby at_107) rfl  k) ?_
      refine own_callS X39 hx hZ (y := (⟨"java/lang/Long", "valueOf", "(J)Ljava/lang/Long;"⟩ : MethodName)) hown (hw _ (List.mem_of_getElem? (i := 22) rfl)) (hw _ (List.mem_of_getElem? (i := 23) rfl)) (hw _ (List.mem_of_getElem? (i := 24) rfl)) (hw _ (List.mem_of_getElem? (i := 25) rfl)) (by decide) (argsL := [(.long A)]) (rest := []) (W := 0) (rm_voLong l Z a0 hw [] A caL fcL T39.heap n0 (Nat.le_trans (Nat.le_trans (Nat.le_trans (Nat.le_trans Z0 E36.1) K37.1) E38.1) K39.1) (own_sk1 (Sta.ext E38 (own_sk1 (Sta.ext E36 S_cL) K37 A36)) K39 A38) ((((V_cL.ext E36).keep K37 (ninS ne36_caL nin0)).ext E38).keep K39 (ninS ne38_caL nin0)) ((((ICL.ext E36).keep K37).ext E38).keep K39)) rfl (by rw [hml]; rfl) (lenOf pd_5 rfl) rfl (Nat.le_of_eq rfl) (hb hby at_109) (by decide) (by decide) (by decide) (by decide) ?_
      intro v42 T42 L42 X42 hQ42
      obtain ⟨⟨bx, rfl, Ebx⟩, Nq42, K42⟩ := hQ42
      have N42 := Fr.app N39 Nq42
      refine own_st (fr' := (mkF m 114 #[.val (.long p0), .second, .val (.int p1), .val (.long p2), .second, .val (.int p3), .val (.int p4), .val (.long A), .second, .val (.int TA), .val (.long z32_0), .second, .val (.int z35_0), .val (.int kd), .val (.ref b36), .val (.ref b38), .val (.ref bx), .unset, .unset] [])) (fun t k => XS.astore X42.here hx rfl (hb hby at_112) rfl rfl (l' := #[.val (.long p0), .second, .val (.int p1), .val (.long p2), .second, .val (.int p3), .val (.int p4), .val (.long A), .second, .val (.int TA), .val (.long z32_0), .second, .val (.int z35_0), .val (.int kd), .val (.ref b36), .val (.ref b38), .val (.ref bx), .unset, .unset]) rfl k) ?_
      refine own_st (fr' := (mkF m 130 #[.val (.long p0), .second, .val (.int p1), .val (.long p2), .second, .val (.int p3), .val (.int p4), .val (.long A), .second, .val (.int TA), .val (.long z32_0), .second, .val (.int z35_0), .val (.int kd), .val (.ref b36), .val (.ref b38), .val (.ref bx), .unset, .unset] [])) (fun t k => XS.goto X42.here hx rfl (pc0 := 114) (pc' := 130) rfl (hb hby at_114) (by decide) (by decide) k) ?_
      refine own_st (fr' := (mkF m 132 #[.val (.long p0), .second, .val (.int p1), .val (.long p2), .second, .val (.int p3), .val (.int p4), .val (.long A), .second, .val (.int TA), .val (.long z32_0), .second, .val (.int z35_0), .val (.int kd), .val (.ref b36), .val (.ref b38), .val (.ref bx), .unset, .unset] [(.int kd)])) (fun t k => XS.iload X42.here hx rfl (hb hby at_130) rfl  k) ?_
      refine own_st (fr' := (mkF m 154 #[.val (.long p0), .second, .val (.int p1), .val (.long p2), .second, .val (.int p3), .val (.int p4), .val (.long A), .second, .val (.int TA), .val (.long z32_0), .second, .val (.int z35_0), .val (.int kd), .val (.ref b36), .val (.ref b38), .val (.ref bx), .unset, .unset] [])) (fun t k => XS.ifYes X42.here hx rfl (pc0 := 132) (pc' := 154) rfl (hb hby at_132) rfl ((if0 _ _).trans (own_feq (x := kd) (y := (0 : Int32)) (show ¬ kd.toInt = 0 from by omega)).2) (by decide) (by decide) k) ?_
      refine own_st (fr' := (mkF m 155 #[.val (.long p0), .second, .val (.int p1), .val (.long p2), .second, .val (.int p3), .val (.int p4), .val (.long A), .second, .val (.int TA), .val (.long z32_0), .second, .val (.int z35_0), .val (.int kd), .val (.ref b36), .val (.ref b38), .val (.ref bx), .unset, .unset] [(.int (0 : Int32))])) (fun t k => XS.iconst X42.here hx rfl (hb hby at_154) k) ?_
      refine own_st (fr' := (mkF m 157 #[.val (.long p0), .second, .val (.int p1), .val (.long p2), .second, .val (.int p3), .val (.int p4), .val (.long A), .second, .val (.int TA), .val (.long z32_0), .second, .val (.int z35_0), .val (.int kd), .val (.ref b36), .val (.ref b38), .val (.ref bx), .val (.int (0 : Int32)), .unset] [])) (fun t k => XS.istore X42.here hx rfl (hb hby at_155) rfl  (l' := #[.val (.long p0), .second, .val (.int p1), .val (.long p2), .second, .val (.int p3), .val (.int p4), .val (.long A), .second, .val (.int TA), .val (.long z32_0), .second, .val (.int z35_0), .val (.int kd), .val (.ref b36), .val (.ref b38), .val (.ref bx), .val (.int (0 : Int32)), .unset]) rfl k) ?_
      refine own_st (fr' := (mkF m 159 #[.val (.long p0), .second, .val (.int p1), .val (.long p2), .second, .val (.int p3), .val (.int p4), .val (.long A), .second, .val (.int TA), .val (.long z32_0), .second, .val (.int z35_0), .val (.int kd), .val (.ref b36), .val (.ref b38), .val (.ref bx), .val (.int (0 : Int32)), .unset] [(.ref b36)])) (fun t k => XS.aload X42.here hx rfl (hb hby at_157) rfl rfl k) ?_
      refine own_st (fr' := (mkF m 161 #[.val (.long p0), .second, .val (.int p1), .val (.long p2), .second, .val (.int p3), .val (.int p4), .val (.long A), .second, .val (.int TA), .val (.long z32_0), .second, .val (.int z35_0), .val (.int kd), .val (.ref b36), .val (.ref b38), .val (.ref bx), .val (.int (0 : Int32)), .unset] [(.ref bx), (.ref b36)])) (fun t k => XS.aload X42.here hx rfl (hb hby at_159) rfl rfl k) ?_
      refine own_callV X42 hx hZ (y := (⟨"com/example/timed_net_processes/timednetprocesses/Step", "equals", "(Ljava/lang/Object;)Z"⟩ : MethodName)) (z := (⟨"com/example/timed_net_processes/timednetprocesses/Step", "equals", "(Ljava/lang/Object;)Z"⟩ : MethodName)) hown (hw _ (List.mem_of_getElem? (i := 15) rfl)) (hw _ (List.mem_of_getElem? (i := 16) rfl)) (notFace_of_selects (args := #[]) (mvT hZ (hw _ (List.mem_of_getElem? (i := 18) rfl)))) (hw _ (List.mem_of_getElem? (i := 18) rfl)) (hw _ (List.mem_of_getElem? (i := 17) rfl)) (hw _ (List.mem_of_getElem? (i := 4) rfl)) (hw _ (List.mem_of_getElem? (i := 19) rfl)) (by decide) (a := b36) (argsL := [(.ref bx)]) (rest := []) (W := 0) (rm_eqLong l Z a0 hw [] b36 bx T42.heap n0 (Nat.le_trans (Nat.le_trans (Nat.le_trans (Nat.le_trans (Nat.le_trans Z0 E36.1) K37.1) E38.1) K39.1) K42.1) Ebx) rfl ((((A36.keep K37).ext E38).keep K39).keep K42) (by rw [hml]; rfl) (lenOf pd_4 rfl) rfl (Nat.le_of_eq rfl) (hb hby at_161) (by decide) (by decide) (by decide) (by decide) ?_
      intro v43 T43 L43 X43 hQ43
      obtain ⟨rfl, Nq43, eq43⟩ := hQ43
      have N43 := Fr.app N42 Nq43
      refine own_st (fr' := (mkF m 166 #[.val (.long p0), .second, .val (.int p1), .val (.long p2), .second, .val (.int p3), .val (.int p4), .val (.long A), .second, .val (.int TA), .val (.long z32_0), .second, .val (.int z35_0), .val (.int kd), .val (.ref b36), .val (.ref b38), .val (.ref bx), .val (.int (0 : Int32)), .val (.int (0 : Int32))] [])) (fun t k => XS.istore X43.here hx rfl (hb hby at_164) rfl  (l' := #[.val (.long p0), .second, .val (.int p1), .val (.long p2), .second, .val (.int p3), .val (.int p4), .val (.long A), .second, .val (.int TA), .val (.long z32_0), .second, .val (.int z35_0), .val (.int kd), .val (.ref b36), .val (.ref b38), .val (.ref bx), .val (.int (0 : Int32)), .val (.int (0 : Int32))]) rfl k) ?_
      refine own_st (fr' := (mkF m 168 #[.val (.long p0), .second, .val (.int p1), .val (.long p2), .second, .val (.int p3), .val (.int p4), .val (.long A), .second, .val (.int TA), .val (.long z32_0), .second, .val (.int z35_0), .val (.int kd), .val (.ref b36), .val (.ref b38), .val (.ref bx), .val (.int (0 : Int32)), .val (.int (0 : Int32))] [(.int (0 : Int32))])) (fun t k => XS.iload X43.here hx rfl (hb hby at_166) rfl  k) ?_
      refine own_st (fr' := (mkF m 170 #[.val (.long p0), .second, .val (.int p1), .val (.long p2), .second, .val (.int p3), .val (.int p4), .val (.long A), .second, .val (.int TA), .val (.long z32_0), .second, .val (.int z35_0), .val (.int kd), .val (.ref b36), .val (.ref b38), .val (.ref bx), .val (.int (0 : Int32)), .val (.int (0 : Int32))] [(.int (0 : Int32)), (.int (0 : Int32))])) (fun t k => XS.iload X43.here hx rfl (hb hby at_168) rfl  k) ?_
      refine own_st (fr' := (mkF m 175 #[.val (.long p0), .second, .val (.int p1), .val (.long p2), .second, .val (.int p3), .val (.int p4), .val (.long A), .second, .val (.int TA), .val (.long z32_0), .second, .val (.int z35_0), .val (.int kd), .val (.ref b36), .val (.ref b38), .val (.ref bx), .val (.int (0 : Int32)), .val (.int (0 : Int32))] [])) (fun t k => XS.icmpYes X43.here hx rfl (pc0 := 170) (pc' := 175) rfl (hb hby at_170) rfl (own_teq (x := (0 : Int32)) (y := (0 : Int32)) (show 0 = 0 from rfl)).1 (by decide) (by decide) k) ?_
      refine own_st (fr' := (mkF m 177 #[.val (.long p0), .second, .val (.int p1), .val (.long p2), .second, .val (.int p3), .val (.int p4), .val (.long A), .second, .val (.int TA), .val (.long z32_0), .second, .val (.int z35_0), .val (.int kd), .val (.ref b36), .val (.ref b38), .val (.ref bx), .val (.int (0 : Int32)), .val (.int (0 : Int32))] [(.ref b36)])) (fun t k => XS.aload X43.here hx rfl (hb hby at_175) rfl rfl k) ?_
      refine own_st (fr' := (mkF m 179 #[.val (.long p0), .second, .val (.int p1), .val (.long p2), .second, .val (.int p3), .val (.int p4), .val (.long A), .second, .val (.int TA), .val (.long z32_0), .second, .val (.int z35_0), .val (.int kd), .val (.ref b36), .val (.ref b38), .val (.ref bx), .val (.int (0 : Int32)), .val (.int (0 : Int32))] [(.ref b36), (.ref b36)])) (fun t k => XS.aload X43.here hx rfl (hb hby at_177) rfl rfl k) ?_
      refine own_callV X43 hx hZ (y := (⟨"com/example/timed_net_processes/timednetprocesses/Step", "equals", "(Ljava/lang/Object;)Z"⟩ : MethodName)) (z := (⟨"com/example/timed_net_processes/timednetprocesses/Step", "equals", "(Ljava/lang/Object;)Z"⟩ : MethodName)) hown (hw _ (List.mem_of_getElem? (i := 15) rfl)) (hw _ (List.mem_of_getElem? (i := 16) rfl)) (notFace_of_selects (args := #[]) (mvT hZ (hw _ (List.mem_of_getElem? (i := 18) rfl)))) (hw _ (List.mem_of_getElem? (i := 18) rfl)) (hw _ (List.mem_of_getElem? (i := 17) rfl)) (hw _ (List.mem_of_getElem? (i := 4) rfl)) (hw _ (List.mem_of_getElem? (i := 19) rfl)) (by decide) (a := b36) (argsL := [(.ref b36)]) (rest := []) (W := 0) (rm_eqs l Z a0 hw [] b36 b36 A TA A TA T42.heap n0 (Nat.le_trans (Nat.le_trans (Nat.le_trans (Nat.le_trans (Nat.le_trans Z0 E36.1) K37.1) E38.1) K39.1) K42.1) ((((A36.keep K37).ext E38).keep K39).keep K42) (((Fc37_0.ext E38).keep K39 (ninS ne38_b36 nin0)).keep K42 nin0) (((Fc37_1.ext E38).keep K39 (ninS ne38_b36 nin0)).keep K42 nin0) (((Fc37_0.ext E38).keep K39 (ninS ne38_b36 nin0)).keep K42 nin0) (((Fc37_1.ext E38).keep K39 (ninS ne38_b36 nin0)).keep K42 nin0)) eq43 ((((A36.keep K37).ext E38).keep K39).keep K42) (by rw [hml]; rfl) (lenOf pd_4 rfl) rfl (Nat.le_of_eq rfl) (hb hby at_179) (by decide) (by decide) (by decide) (by decide) ?_
      intro v44 T44 L44 X44 hQ44
      obtain ⟨⟨y44, rfl, hy44⟩, Nq44, eq44⟩ := hQ44
      have N44 := Fr.app N43 Nq44
      refine own_st (fr' := (mkF m 187 #[.val (.long p0), .second, .val (.int p1), .val (.long p2), .second, .val (.int p3), .val (.int p4), .val (.long A), .second, .val (.int TA), .val (.long z32_0), .second, .val (.int z35_0), .val (.int kd), .val (.ref b36), .val (.ref b38), .val (.ref bx), .val (.int (0 : Int32)), .val (.int (0 : Int32))] [])) (fun t k => XS.ifYes X44.here hx rfl (pc0 := 182) (pc' := 187) rfl (hb hby at_182) rfl ((if0 _ _).trans (own_feq (x := y44) (y := (0 : Int32)) (show ¬ y44.toInt = 0 from by omega)).2) (by decide) (by decide) k) ?_
      refine own_st (fr' := (mkF m 189 #[.val (.long p0), .second, .val (.int p1), .val (.long p2), .second, .val (.int p3), .val (.int p4), .val (.long A), .second, .val (.int TA), .val (.long z32_0), .second, .val (.int z35_0), .val (.int kd), .val (.ref b36), .val (.ref b38), .val (.ref bx), .val (.int (0 : Int32)), .val (.int (0 : Int32))] [(.int kd)])) (fun t k => XS.iload X44.here hx rfl (hb hby at_187) rfl  k) ?_
      refine own_st (fr' := (mkF m 206 #[.val (.long p0), .second, .val (.int p1), .val (.long p2), .second, .val (.int p3), .val (.int p4), .val (.long A), .second, .val (.int TA), .val (.long z32_0), .second, .val (.int z35_0), .val (.int kd), .val (.ref b36), .val (.ref b38), .val (.ref bx), .val (.int (0 : Int32)), .val (.int (0 : Int32))] [])) (fun t k => XS.ifYes X44.here hx rfl (pc0 := 189) (pc' := 206) rfl (hb hby at_189) rfl ((if0 _ _).trans (own_feq (x := kd) (y := (0 : Int32)) (show ¬ kd.toInt = 0 from by omega)).2) (by decide) (by decide) k) ?_
      refine own_st (fr' := (mkF m 207 #[.val (.long p0), .second, .val (.int p1), .val (.long p2), .second, .val (.int p3), .val (.int p4), .val (.long A), .second, .val (.int TA), .val (.long z32_0), .second, .val (.int z35_0), .val (.int kd), .val (.ref b36), .val (.ref b38), .val (.ref bx), .val (.int (0 : Int32)), .val (.int (0 : Int32))] [(.int (1 : Int32))])) (fun t k => XS.iconst X44.here hx rfl (hb hby at_206) k) ?_
      exact own_retZ X44 hx hlk hret (Or.inr rfl) (hb hby at_207) (by decide) (by decide) (⟨rfl, N44⟩)
    · refine own_st (fr' := (mkF m 117 #[.val (.long p0), .second, .val (.int p1), .val (.long p2), .second, .val (.int p3), .val (.int p4), .val (.long A), .second, .val (.int TA), .val (.long z32_0), .second, .val (.int z35_0), .val (.int kd), .val (.ref b36), .val (.ref b38), .val (.ref b38), .unset, .unset] [])) (fun t k => XS.icmpYes X39.here hx rfl (pc0 := 104) (pc' := 117) rfl (hb hby at_104) rfl (own_feq (x := kd) (y := (2 : Int32)) hk2).2 (by decide) (by decide) k) ?_
      refine own_st (fr' := (mkF m 119 #[.val (.long p0), .second, .val (.int p1), .val (.long p2), .second, .val (.int p3), .val (.int p4), .val (.long A), .second, .val (.int TA), .val (.long z32_0), .second, .val (.int z35_0), .val (.int kd), .val (.ref b36), .val (.ref b38), .val (.ref b38), .unset, .unset] [(.int kd)])) (fun t k => XS.iload X39.here hx rfl (hb hby at_117) rfl  k) ?_
      refine own_st (fr' := (mkF m 120 #[.val (.long p0), .second, .val (.int p1), .val (.long p2), .second, .val (.int p3), .val (.int p4), .val (.long A), .second, .val (.int TA), .val (.long z32_0), .second, .val (.int z35_0), .val (.int kd), .val (.ref b36), .val (.ref b38), .val (.ref b38), .unset, .unset] [(.int (3 : Int32)), (.int kd)])) (fun t k => XS.iconst X39.here hx rfl (hb hby at_119) k) ?_
      by_cases hk3 : kd.toInt = 3
      · refine own_st (fr' := (mkF m 123 #[.val (.long p0), .second, .val (.int p1), .val (.long p2), .second, .val (.int p3), .val (.int p4), .val (.long A), .second, .val (.int TA), .val (.long z32_0), .second, .val (.int z35_0), .val (.int kd), .val (.ref b36), .val (.ref b38), .val (.ref b38), .unset, .unset] [])) (fun t k => XS.icmpNo X39.here hx rfl (hb hby at_120) rfl (own_teq (x := kd) (y := (3 : Int32)) hk3).2 k) ?_
        refine own_st (fr' := (mkF m 125 #[.val (.long p0), .second, .val (.int p1), .val (.long p2), .second, .val (.int p3), .val (.int p4), .val (.long A), .second, .val (.int TA), .val (.long z32_0), .second, .val (.int z35_0), .val (.int kd), .val (.ref b36), .val (.ref b38), .val (.ref b38), .unset, .unset] [(.int TA)])) (fun t k => XS.iload X39.here hx rfl (hb hby at_123) rfl  k) ?_
        refine own_callS X39 hx hZ (y := (⟨"java/lang/Integer", "valueOf", "(I)Ljava/lang/Integer;"⟩ : MethodName)) hown (hw _ (List.mem_of_getElem? (i := 46) rfl)) (hw _ (List.mem_of_getElem? (i := 47) rfl)) (hw _ (List.mem_of_getElem? (i := 48) rfl)) (hw _ (List.mem_of_getElem? (i := 49) rfl)) (by decide) (argsL := [(.int TA)]) (rest := []) (W := 0) (rm_voInteger l Z a0 hw [] TA caI fcI T39.heap n0 (Nat.le_trans (Nat.le_trans (Nat.le_trans (Nat.le_trans Z0 E36.1) K37.1) E38.1) K39.1) (own_sk1 (Sta.ext E38 (own_sk1 (Sta.ext E36 S_h) K37 A36)) K39 A38) (own_sk1 (Sta.ext E38 (own_sk1 (Sta.ext E36 S_cI) K37 A36)) K39 A38) ((((V_cI.ext E36).keep K37 (ninS ne36_caI nin0)).ext E38).keep K39 (ninS ne38_caI nin0)) ((((ICI.ext E36).keep K37).ext E38).keep K39)) rfl (by rw [hml]; rfl) (lenOf pd_6 rfl) rfl (Nat.le_of_eq rfl) (hb hby at_125) (by decide) (by decide) (by decide) (by decide) ?_
        intro v45 T45 L45 X45 hQ45
        obtain ⟨⟨bx, rfl, Ebx⟩, Nq45, K45⟩ := hQ45
        have N45 := Fr.app N39 Nq45
        refine own_st (fr' := (mkF m 130 #[.val (.long p0), .second, .val (.int p1), .val (.long p2), .second, .val (.int p3), .val (.int p4), .val (.long A), .second, .val (.int TA), .val (.long z32_0), .second, .val (.int z35_0), .val (.int kd), .val (.ref b36), .val (.ref b38), .val (.ref bx), .unset, .unset] [])) (fun t k => XS.astore X45.here hx rfl (hb hby at_128) rfl rfl (l' := #[.val (.long p0), .second, .val (.int p1), .val (.long p2), .second, .val (.int p3), .val (.int p4), .val (.long A), .second, .val (.int TA), .val (.long z32_0), .second, .val (.int z35_0), .val (.int kd), .val (.ref b36), .val (.ref b38), .val (.ref bx), .unset, .unset]) rfl k) ?_
        refine own_st (fr' := (mkF m 132 #[.val (.long p0), .second, .val (.int p1), .val (.long p2), .second, .val (.int p3), .val (.int p4), .val (.long A), .second, .val (.int TA), .val (.long z32_0), .second, .val (.int z35_0), .val (.int kd), .val (.ref b36), .val (.ref b38), .val (.ref bx), .unset, .unset] [(.int kd)])) (fun t k => XS.iload X45.here hx rfl (hb hby at_130) rfl  k) ?_
        refine own_st (fr' := (mkF m 154 #[.val (.long p0), .second, .val (.int p1), .val (.long p2), .second, .val (.int p3), .val (.int p4), .val (.long A), .second, .val (.int TA), .val (.long z32_0), .second, .val (.int z35_0), .val (.int kd), .val (.ref b36), .val (.ref b38), .val (.ref bx), .unset, .unset] [])) (fun t k => XS.ifYes X45.here hx rfl (pc0 := 132) (pc' := 154) rfl (hb hby at_132) rfl ((if0 _ _).trans (own_feq (x := kd) (y := (0 : Int32)) (show ¬ kd.toInt = 0 from by omega)).2) (by decide) (by decide) k) ?_
        refine own_st (fr' := (mkF m 155 #[.val (.long p0), .second, .val (.int p1), .val (.long p2), .second, .val (.int p3), .val (.int p4), .val (.long A), .second, .val (.int TA), .val (.long z32_0), .second, .val (.int z35_0), .val (.int kd), .val (.ref b36), .val (.ref b38), .val (.ref bx), .unset, .unset] [(.int (0 : Int32))])) (fun t k => XS.iconst X45.here hx rfl (hb hby at_154) k) ?_
        refine own_st (fr' := (mkF m 157 #[.val (.long p0), .second, .val (.int p1), .val (.long p2), .second, .val (.int p3), .val (.int p4), .val (.long A), .second, .val (.int TA), .val (.long z32_0), .second, .val (.int z35_0), .val (.int kd), .val (.ref b36), .val (.ref b38), .val (.ref bx), .val (.int (0 : Int32)), .unset] [])) (fun t k => XS.istore X45.here hx rfl (hb hby at_155) rfl  (l' := #[.val (.long p0), .second, .val (.int p1), .val (.long p2), .second, .val (.int p3), .val (.int p4), .val (.long A), .second, .val (.int TA), .val (.long z32_0), .second, .val (.int z35_0), .val (.int kd), .val (.ref b36), .val (.ref b38), .val (.ref bx), .val (.int (0 : Int32)), .unset]) rfl k) ?_
        refine own_st (fr' := (mkF m 159 #[.val (.long p0), .second, .val (.int p1), .val (.long p2), .second, .val (.int p3), .val (.int p4), .val (.long A), .second, .val (.int TA), .val (.long z32_0), .second, .val (.int z35_0), .val (.int kd), .val (.ref b36), .val (.ref b38), .val (.ref bx), .val (.int (0 : Int32)), .unset] [(.ref b36)])) (fun t k => XS.aload X45.here hx rfl (hb hby at_157) rfl rfl k) ?_
        refine own_st (fr' := (mkF m 161 #[.val (.long p0), .second, .val (.int p1), .val (.long p2), .second, .val (.int p3), .val (.int p4), .val (.long A), .second, .val (.int TA), .val (.long z32_0), .second, .val (.int z35_0), .val (.int kd), .val (.ref b36), .val (.ref b38), .val (.ref bx), .val (.int (0 : Int32)), .unset] [(.ref bx), (.ref b36)])) (fun t k => XS.aload X45.here hx rfl (hb hby at_159) rfl rfl k) ?_
        refine own_callV X45 hx hZ (y := (⟨"com/example/timed_net_processes/timednetprocesses/Step", "equals", "(Ljava/lang/Object;)Z"⟩ : MethodName)) (z := (⟨"com/example/timed_net_processes/timednetprocesses/Step", "equals", "(Ljava/lang/Object;)Z"⟩ : MethodName)) hown (hw _ (List.mem_of_getElem? (i := 15) rfl)) (hw _ (List.mem_of_getElem? (i := 16) rfl)) (notFace_of_selects (args := #[]) (mvT hZ (hw _ (List.mem_of_getElem? (i := 18) rfl)))) (hw _ (List.mem_of_getElem? (i := 18) rfl)) (hw _ (List.mem_of_getElem? (i := 17) rfl)) (hw _ (List.mem_of_getElem? (i := 4) rfl)) (hw _ (List.mem_of_getElem? (i := 19) rfl)) (by decide) (a := b36) (argsL := [(.ref bx)]) (rest := []) (W := 0) (rm_eqInteger l Z a0 hw [] b36 bx T45.heap n0 (Nat.le_trans (Nat.le_trans (Nat.le_trans (Nat.le_trans (Nat.le_trans Z0 E36.1) K37.1) E38.1) K39.1) K45.1) Ebx) rfl ((((A36.keep K37).ext E38).keep K39).keep K45) (by rw [hml]; rfl) (lenOf pd_4 rfl) rfl (Nat.le_of_eq rfl) (hb hby at_161) (by decide) (by decide) (by decide) (by decide) ?_
        intro v46 T46 L46 X46 hQ46
        obtain ⟨rfl, Nq46, eq46⟩ := hQ46
        have N46 := Fr.app N45 Nq46
        refine own_st (fr' := (mkF m 166 #[.val (.long p0), .second, .val (.int p1), .val (.long p2), .second, .val (.int p3), .val (.int p4), .val (.long A), .second, .val (.int TA), .val (.long z32_0), .second, .val (.int z35_0), .val (.int kd), .val (.ref b36), .val (.ref b38), .val (.ref bx), .val (.int (0 : Int32)), .val (.int (0 : Int32))] [])) (fun t k => XS.istore X46.here hx rfl (hb hby at_164) rfl  (l' := #[.val (.long p0), .second, .val (.int p1), .val (.long p2), .second, .val (.int p3), .val (.int p4), .val (.long A), .second, .val (.int TA), .val (.long z32_0), .second, .val (.int z35_0), .val (.int kd), .val (.ref b36), .val (.ref b38), .val (.ref bx), .val (.int (0 : Int32)), .val (.int (0 : Int32))]) rfl k) ?_
        refine own_st (fr' := (mkF m 168 #[.val (.long p0), .second, .val (.int p1), .val (.long p2), .second, .val (.int p3), .val (.int p4), .val (.long A), .second, .val (.int TA), .val (.long z32_0), .second, .val (.int z35_0), .val (.int kd), .val (.ref b36), .val (.ref b38), .val (.ref bx), .val (.int (0 : Int32)), .val (.int (0 : Int32))] [(.int (0 : Int32))])) (fun t k => XS.iload X46.here hx rfl (hb hby at_166) rfl  k) ?_
        refine own_st (fr' := (mkF m 170 #[.val (.long p0), .second, .val (.int p1), .val (.long p2), .second, .val (.int p3), .val (.int p4), .val (.long A), .second, .val (.int TA), .val (.long z32_0), .second, .val (.int z35_0), .val (.int kd), .val (.ref b36), .val (.ref b38), .val (.ref bx), .val (.int (0 : Int32)), .val (.int (0 : Int32))] [(.int (0 : Int32)), (.int (0 : Int32))])) (fun t k => XS.iload X46.here hx rfl (hb hby at_168) rfl  k) ?_
        refine own_st (fr' := (mkF m 175 #[.val (.long p0), .second, .val (.int p1), .val (.long p2), .second, .val (.int p3), .val (.int p4), .val (.long A), .second, .val (.int TA), .val (.long z32_0), .second, .val (.int z35_0), .val (.int kd), .val (.ref b36), .val (.ref b38), .val (.ref bx), .val (.int (0 : Int32)), .val (.int (0 : Int32))] [])) (fun t k => XS.icmpYes X46.here hx rfl (pc0 := 170) (pc' := 175) rfl (hb hby at_170) rfl (own_teq (x := (0 : Int32)) (y := (0 : Int32)) (show 0 = 0 from rfl)).1 (by decide) (by decide) k) ?_
        refine own_st (fr' := (mkF m 177 #[.val (.long p0), .second, .val (.int p1), .val (.long p2), .second, .val (.int p3), .val (.int p4), .val (.long A), .second, .val (.int TA), .val (.long z32_0), .second, .val (.int z35_0), .val (.int kd), .val (.ref b36), .val (.ref b38), .val (.ref bx), .val (.int (0 : Int32)), .val (.int (0 : Int32))] [(.ref b36)])) (fun t k => XS.aload X46.here hx rfl (hb hby at_175) rfl rfl k) ?_
        refine own_st (fr' := (mkF m 179 #[.val (.long p0), .second, .val (.int p1), .val (.long p2), .second, .val (.int p3), .val (.int p4), .val (.long A), .second, .val (.int TA), .val (.long z32_0), .second, .val (.int z35_0), .val (.int kd), .val (.ref b36), .val (.ref b38), .val (.ref bx), .val (.int (0 : Int32)), .val (.int (0 : Int32))] [(.ref b36), (.ref b36)])) (fun t k => XS.aload X46.here hx rfl (hb hby at_177) rfl rfl k) ?_
        refine own_callV X46 hx hZ (y := (⟨"com/example/timed_net_processes/timednetprocesses/Step", "equals", "(Ljava/lang/Object;)Z"⟩ : MethodName)) (z := (⟨"com/example/timed_net_processes/timednetprocesses/Step", "equals", "(Ljava/lang/Object;)Z"⟩ : MethodName)) hown (hw _ (List.mem_of_getElem? (i := 15) rfl)) (hw _ (List.mem_of_getElem? (i := 16) rfl)) (notFace_of_selects (args := #[]) (mvT hZ (hw _ (List.mem_of_getElem? (i := 18) rfl)))) (hw _ (List.mem_of_getElem? (i := 18) rfl)) (hw _ (List.mem_of_getElem? (i := 17) rfl)) (hw _ (List.mem_of_getElem? (i := 4) rfl)) (hw _ (List.mem_of_getElem? (i := 19) rfl)) (by decide) (a := b36) (argsL := [(.ref b36)]) (rest := []) (W := 0) (rm_eqs l Z a0 hw [] b36 b36 A TA A TA T45.heap n0 (Nat.le_trans (Nat.le_trans (Nat.le_trans (Nat.le_trans (Nat.le_trans Z0 E36.1) K37.1) E38.1) K39.1) K45.1) ((((A36.keep K37).ext E38).keep K39).keep K45) (((Fc37_0.ext E38).keep K39 (ninS ne38_b36 nin0)).keep K45 nin0) (((Fc37_1.ext E38).keep K39 (ninS ne38_b36 nin0)).keep K45 nin0) (((Fc37_0.ext E38).keep K39 (ninS ne38_b36 nin0)).keep K45 nin0) (((Fc37_1.ext E38).keep K39 (ninS ne38_b36 nin0)).keep K45 nin0)) eq46 ((((A36.keep K37).ext E38).keep K39).keep K45) (by rw [hml]; rfl) (lenOf pd_4 rfl) rfl (Nat.le_of_eq rfl) (hb hby at_179) (by decide) (by decide) (by decide) (by decide) ?_
        intro v47 T47 L47 X47 hQ47
        obtain ⟨⟨y47, rfl, hy47⟩, Nq47, eq47⟩ := hQ47
        have N47 := Fr.app N46 Nq47
        refine own_st (fr' := (mkF m 187 #[.val (.long p0), .second, .val (.int p1), .val (.long p2), .second, .val (.int p3), .val (.int p4), .val (.long A), .second, .val (.int TA), .val (.long z32_0), .second, .val (.int z35_0), .val (.int kd), .val (.ref b36), .val (.ref b38), .val (.ref bx), .val (.int (0 : Int32)), .val (.int (0 : Int32))] [])) (fun t k => XS.ifYes X47.here hx rfl (pc0 := 182) (pc' := 187) rfl (hb hby at_182) rfl ((if0 _ _).trans (own_feq (x := y47) (y := (0 : Int32)) (show ¬ y47.toInt = 0 from by omega)).2) (by decide) (by decide) k) ?_
        refine own_st (fr' := (mkF m 189 #[.val (.long p0), .second, .val (.int p1), .val (.long p2), .second, .val (.int p3), .val (.int p4), .val (.long A), .second, .val (.int TA), .val (.long z32_0), .second, .val (.int z35_0), .val (.int kd), .val (.ref b36), .val (.ref b38), .val (.ref bx), .val (.int (0 : Int32)), .val (.int (0 : Int32))] [(.int kd)])) (fun t k => XS.iload X47.here hx rfl (hb hby at_187) rfl  k) ?_
        refine own_st (fr' := (mkF m 206 #[.val (.long p0), .second, .val (.int p1), .val (.long p2), .second, .val (.int p3), .val (.int p4), .val (.long A), .second, .val (.int TA), .val (.long z32_0), .second, .val (.int z35_0), .val (.int kd), .val (.ref b36), .val (.ref b38), .val (.ref bx), .val (.int (0 : Int32)), .val (.int (0 : Int32))] [])) (fun t k => XS.ifYes X47.here hx rfl (pc0 := 189) (pc' := 206) rfl (hb hby at_189) rfl ((if0 _ _).trans (own_feq (x := kd) (y := (0 : Int32)) (show ¬ kd.toInt = 0 from by omega)).2) (by decide) (by decide) k) ?_
        refine own_st (fr' := (mkF m 207 #[.val (.long p0), .second, .val (.int p1), .val (.long p2), .second, .val (.int p3), .val (.int p4), .val (.long A), .second, .val (.int TA), .val (.long z32_0), .second, .val (.int z35_0), .val (.int kd), .val (.ref b36), .val (.ref b38), .val (.ref bx), .val (.int (0 : Int32)), .val (.int (0 : Int32))] [(.int (1 : Int32))])) (fun t k => XS.iconst X47.here hx rfl (hb hby at_206) k) ?_
        exact own_retZ X47 hx hlk hret (Or.inr rfl) (hb hby at_207) (by decide) (by decide) (⟨rfl, N47⟩)
      · refine own_st (fr' := (mkF m 130 #[.val (.long p0), .second, .val (.int p1), .val (.long p2), .second, .val (.int p3), .val (.int p4), .val (.long A), .second, .val (.int TA), .val (.long z32_0), .second, .val (.int z35_0), .val (.int kd), .val (.ref b36), .val (.ref b38), .val (.ref b38), .unset, .unset] [])) (fun t k => XS.icmpYes X39.here hx rfl (pc0 := 120) (pc' := 130) rfl (hb hby at_120) rfl (own_feq (x := kd) (y := (3 : Int32)) hk3).2 (by decide) (by decide) k) ?_
        refine own_st (fr' := (mkF m 132 #[.val (.long p0), .second, .val (.int p1), .val (.long p2), .second, .val (.int p3), .val (.int p4), .val (.long A), .second, .val (.int TA), .val (.long z32_0), .second, .val (.int z35_0), .val (.int kd), .val (.ref b36), .val (.ref b38), .val (.ref b38), .unset, .unset] [(.int kd)])) (fun t k => XS.iload X39.here hx rfl (hb hby at_130) rfl  k) ?_
        refine own_st (fr' := (mkF m 135 #[.val (.long p0), .second, .val (.int p1), .val (.long p2), .second, .val (.int p3), .val (.int p4), .val (.long A), .second, .val (.int TA), .val (.long z32_0), .second, .val (.int z35_0), .val (.int kd), .val (.ref b36), .val (.ref b38), .val (.ref b38), .unset, .unset] [])) (fun t k => XS.ifNo X39.here hx rfl (hb hby at_132) rfl ((if0 _ _).trans (own_teq (x := kd) (y := (0 : Int32)) (show kd.toInt = 0 from by omega)).2) k) ?_
        refine own_st (fr' := (mkF m 137 #[.val (.long p0), .second, .val (.int p1), .val (.long p2), .second, .val (.int p3), .val (.int p4), .val (.long A), .second, .val (.int TA), .val (.long z32_0), .second, .val (.int z35_0), .val (.int kd), .val (.ref b36), .val (.ref b38), .val (.ref b38), .unset, .unset] [(.long A)])) (fun t k => XS.lload X39.here hx rfl (hb hby at_135) rfl  k) ?_
        refine own_st (fr' := (mkF m 139 #[.val (.long p0), .second, .val (.int p1), .val (.long p2), .second, .val (.int p3), .val (.int p4), .val (.long A), .second, .val (.int TA), .val (.long z32_0), .second, .val (.int z35_0), .val (.int kd), .val (.ref b36), .val (.ref b38), .val (.ref b38), .unset, .unset] [(.long z32_0), (.long A)])) (fun t k => XS.lload X39.here hx rfl (hb hby at_137) rfl  k) ?_
        refine own_st (fr' := (mkF m 140 #[.val (.long p0), .second, .val (.int p1), .val (.long p2), .second, .val (.int p3), .val (.int p4), .val (.long A), .second, .val (.int TA), .val (.long z32_0), .second, .val (.int z35_0), .val (.int kd), .val (.ref b36), .val (.ref b38), .val (.ref b38), .unset, .unset] [(.int (lcmpW A z32_0))])) (fun t k => XS.lcmp X39.here hx rfl (hb hby at_139) rfl k) ?_
        suffices J48 : ∀ (z51_0 : Int32), ((A.toInt = z32_0.toInt ∧ TA.toInt = z35_0.toInt ∧ z51_0.toInt = 1) ∨ (A.toInt = z32_0.toInt ∧ ¬ TA.toInt = z35_0.toInt ∧ z51_0.toInt = 0) ∨ (¬ A.toInt = z32_0.toInt ∧ z51_0.toInt = 0)) → Go p e below s room_1.cells room_1.slots (Q_law Z p0 p1 p2 p3 p4 caI fcI caL fcL h0 n0) T39 (mkF m 155 #[.val (.long p0), .second, .val (.int p1), .val (.long p2), .second, .val (.int p3), .val (.int p4), .val (.long A), .second, .val (.int TA), .val (.long z32_0), .second, .val (.int z35_0), .val (.int kd), .val (.ref b36), .val (.ref b38), .val (.ref b38), .unset, .unset] [(.int z51_0)]) by
          by_cases hc49 : A.toInt = z32_0.toInt
          · refine own_st (fr' := (mkF m 143 #[.val (.long p0), .second, .val (.int p1), .val (.long p2), .second, .val (.int p3), .val (.int p4), .val (.long A), .second, .val (.int TA), .val (.long z32_0), .second, .val (.int z35_0), .val (.int kd), .val (.ref b36), .val (.ref b38), .val (.ref b38), .unset, .unset] [])) (fun t k => XS.ifNo X39.here hx rfl (hb hby at_140) rfl (own_teqL (x := A) (y := z32_0) hc49).2 k) ?_
            refine own_st (fr' := (mkF m 145 #[.val (.long p0), .second, .val (.int p1), .val (.long p2), .second, .val (.int p3), .val (.int p4), .val (.long A), .second, .val (.int TA), .val (.long z32_0), .second, .val (.int z35_0), .val (.int kd), .val (.ref b36), .val (.ref b38), .val (.ref b38), .unset, .unset] [(.int TA)])) (fun t k => XS.iload X39.here hx rfl (hb hby at_143) rfl  k) ?_
            refine own_st (fr' := (mkF m 147 #[.val (.long p0), .second, .val (.int p1), .val (.long p2), .second, .val (.int p3), .val (.int p4), .val (.long A), .second, .val (.int TA), .val (.long z32_0), .second, .val (.int z35_0), .val (.int kd), .val (.ref b36), .val (.ref b38), .val (.ref b38), .unset, .unset] [(.int z35_0), (.int TA)])) (fun t k => XS.iload X39.here hx rfl (hb hby at_145) rfl  k) ?_
            by_cases hc50 : TA.toInt = z35_0.toInt
            · refine own_st (fr' := (mkF m 150 #[.val (.long p0), .second, .val (.int p1), .val (.long p2), .second, .val (.int p3), .val (.int p4), .val (.long A), .second, .val (.int TA), .val (.long z32_0), .second, .val (.int z35_0), .val (.int kd), .val (.ref b36), .val (.ref b38), .val (.ref b38), .unset, .unset] [])) (fun t k => XS.icmpNo X39.here hx rfl (hb hby at_147) rfl (own_teq (x := TA) (y := z35_0) hc50).2 k) ?_
              refine own_st (fr' := (mkF m 151 #[.val (.long p0), .second, .val (.int p1), .val (.long p2), .second, .val (.int p3), .val (.int p4), .val (.long A), .second, .val (.int TA), .val (.long z32_0), .second, .val (.int z35_0), .val (.int kd), .val (.ref b36), .val (.ref b38), .val (.ref b38), .unset, .unset] [(.int (1 : Int32))])) (fun t k => XS.iconst X39.here hx rfl (hb hby at_150) k) ?_
              refine own_st (fr' := (mkF m 155 #[.val (.long p0), .second, .val (.int p1), .val (.long p2), .second, .val (.int p3), .val (.int p4), .val (.long A), .second, .val (.int TA), .val (.long z32_0), .second, .val (.int z35_0), .val (.int kd), .val (.ref b36), .val (.ref b38), .val (.ref b38), .unset, .unset] [(.int (1 : Int32))])) (fun t k => XS.goto X39.here hx rfl (pc0 := 151) (pc' := 155) rfl (hb hby at_151) (by decide) (by decide) k) ?_
              exact J48  (1 : Int32) (Or.inl ⟨hc49, hc50, rfl⟩)
            · refine own_st (fr' := (mkF m 154 #[.val (.long p0), .second, .val (.int p1), .val (.long p2), .second, .val (.int p3), .val (.int p4), .val (.long A), .second, .val (.int TA), .val (.long z32_0), .second, .val (.int z35_0), .val (.int kd), .val (.ref b36), .val (.ref b38), .val (.ref b38), .unset, .unset] [])) (fun t k => XS.icmpYes X39.here hx rfl (pc0 := 147) (pc' := 154) rfl (hb hby at_147) rfl (own_feq (x := TA) (y := z35_0) hc50).2 (by decide) (by decide) k) ?_
              refine own_st (fr' := (mkF m 155 #[.val (.long p0), .second, .val (.int p1), .val (.long p2), .second, .val (.int p3), .val (.int p4), .val (.long A), .second, .val (.int TA), .val (.long z32_0), .second, .val (.int z35_0), .val (.int kd), .val (.ref b36), .val (.ref b38), .val (.ref b38), .unset, .unset] [(.int (0 : Int32))])) (fun t k => XS.iconst X39.here hx rfl (hb hby at_154) k) ?_
              exact J48  (0 : Int32) (Or.inr (Or.inl ⟨hc49, hc50, rfl⟩))
          · refine own_st (fr' := (mkF m 154 #[.val (.long p0), .second, .val (.int p1), .val (.long p2), .second, .val (.int p3), .val (.int p4), .val (.long A), .second, .val (.int TA), .val (.long z32_0), .second, .val (.int z35_0), .val (.int kd), .val (.ref b36), .val (.ref b38), .val (.ref b38), .unset, .unset] [])) (fun t k => XS.ifYes X39.here hx rfl (pc0 := 140) (pc' := 154) rfl (hb hby at_140) rfl (own_feqL (x := A) (y := z32_0) hc49).2 (by decide) (by decide) k) ?_
            refine own_st (fr' := (mkF m 155 #[.val (.long p0), .second, .val (.int p1), .val (.long p2), .second, .val (.int p3), .val (.int p4), .val (.long A), .second, .val (.int TA), .val (.long z32_0), .second, .val (.int z35_0), .val (.int kd), .val (.ref b36), .val (.ref b38), .val (.ref b38), .unset, .unset] [(.int (0 : Int32))])) (fun t k => XS.iconst X39.here hx rfl (hb hby at_154) k) ?_
            exact J48  (0 : Int32) (Or.inr (Or.inr ⟨hc49, rfl⟩))
        intro z51_0 hz51
        refine own_st (fr' := (mkF m 157 #[.val (.long p0), .second, .val (.int p1), .val (.long p2), .second, .val (.int p3), .val (.int p4), .val (.long A), .second, .val (.int TA), .val (.long z32_0), .second, .val (.int z35_0), .val (.int kd), .val (.ref b36), .val (.ref b38), .val (.ref b38), .val (.int z51_0), .unset] [])) (fun t k => XS.istore X39.here hx rfl (hb hby at_155) rfl  (l' := #[.val (.long p0), .second, .val (.int p1), .val (.long p2), .second, .val (.int p3), .val (.int p4), .val (.long A), .second, .val (.int TA), .val (.long z32_0), .second, .val (.int z35_0), .val (.int kd), .val (.ref b36), .val (.ref b38), .val (.ref b38), .val (.int z51_0), .unset]) rfl k) ?_
        refine own_st (fr' := (mkF m 159 #[.val (.long p0), .second, .val (.int p1), .val (.long p2), .second, .val (.int p3), .val (.int p4), .val (.long A), .second, .val (.int TA), .val (.long z32_0), .second, .val (.int z35_0), .val (.int kd), .val (.ref b36), .val (.ref b38), .val (.ref b38), .val (.int z51_0), .unset] [(.ref b36)])) (fun t k => XS.aload X39.here hx rfl (hb hby at_157) rfl rfl k) ?_
        refine own_st (fr' := (mkF m 161 #[.val (.long p0), .second, .val (.int p1), .val (.long p2), .second, .val (.int p3), .val (.int p4), .val (.long A), .second, .val (.int TA), .val (.long z32_0), .second, .val (.int z35_0), .val (.int kd), .val (.ref b36), .val (.ref b38), .val (.ref b38), .val (.int z51_0), .unset] [(.ref b38), (.ref b36)])) (fun t k => XS.aload X39.here hx rfl (hb hby at_159) rfl rfl k) ?_
        refine own_callV X39 hx hZ (y := (⟨"com/example/timed_net_processes/timednetprocesses/Step", "equals", "(Ljava/lang/Object;)Z"⟩ : MethodName)) (z := (⟨"com/example/timed_net_processes/timednetprocesses/Step", "equals", "(Ljava/lang/Object;)Z"⟩ : MethodName)) hown (hw _ (List.mem_of_getElem? (i := 15) rfl)) (hw _ (List.mem_of_getElem? (i := 16) rfl)) (notFace_of_selects (args := #[]) (mvT hZ (hw _ (List.mem_of_getElem? (i := 18) rfl)))) (hw _ (List.mem_of_getElem? (i := 18) rfl)) (hw _ (List.mem_of_getElem? (i := 17) rfl)) (hw _ (List.mem_of_getElem? (i := 4) rfl)) (hw _ (List.mem_of_getElem? (i := 19) rfl)) (by decide) (a := b36) (argsL := [(.ref b38)]) (rest := []) (W := 0) (rm_eqs l Z a0 hw [] b36 b38 A TA z32_0 z35_0 T39.heap n0 (Nat.le_trans (Nat.le_trans (Nat.le_trans (Nat.le_trans Z0 E36.1) K37.1) E38.1) K39.1) (A38.keep K39) ((Fc37_0.ext E38).keep K39 (ninS ne38_b36 nin0)) ((Fc37_1.ext E38).keep K39 (ninS ne38_b36 nin0)) Fc39_0 Fc39_1) rfl (((A36.keep K37).ext E38).keep K39) (by rw [hml]; rfl) (lenOf pd_4 rfl) rfl (Nat.le_of_eq rfl) (hb hby at_161) (by decide) (by decide) (by decide) (by decide) ?_
        intro v52 T52 L52 X52 hQ52
        obtain ⟨⟨y52, rfl, hy52⟩, Nq52, eq52⟩ := hQ52
        have N52 := Fr.app N39 Nq52
        refine own_st (fr' := (mkF m 166 #[.val (.long p0), .second, .val (.int p1), .val (.long p2), .second, .val (.int p3), .val (.int p4), .val (.long A), .second, .val (.int TA), .val (.long z32_0), .second, .val (.int z35_0), .val (.int kd), .val (.ref b36), .val (.ref b38), .val (.ref b38), .val (.int z51_0), .val (.int y52)] [])) (fun t k => XS.istore X52.here hx rfl (hb hby at_164) rfl  (l' := #[.val (.long p0), .second, .val (.int p1), .val (.long p2), .second, .val (.int p3), .val (.int p4), .val (.long A), .second, .val (.int TA), .val (.long z32_0), .second, .val (.int z35_0), .val (.int kd), .val (.ref b36), .val (.ref b38), .val (.ref b38), .val (.int z51_0), .val (.int y52)]) rfl k) ?_
        refine own_st (fr' := (mkF m 168 #[.val (.long p0), .second, .val (.int p1), .val (.long p2), .second, .val (.int p3), .val (.int p4), .val (.long A), .second, .val (.int TA), .val (.long z32_0), .second, .val (.int z35_0), .val (.int kd), .val (.ref b36), .val (.ref b38), .val (.ref b38), .val (.int z51_0), .val (.int y52)] [(.int y52)])) (fun t k => XS.iload X52.here hx rfl (hb hby at_166) rfl  k) ?_
        refine own_st (fr' := (mkF m 170 #[.val (.long p0), .second, .val (.int p1), .val (.long p2), .second, .val (.int p3), .val (.int p4), .val (.long A), .second, .val (.int TA), .val (.long z32_0), .second, .val (.int z35_0), .val (.int kd), .val (.ref b36), .val (.ref b38), .val (.ref b38), .val (.int z51_0), .val (.int y52)] [(.int z51_0), (.int y52)])) (fun t k => XS.iload X52.here hx rfl (hb hby at_168) rfl  k) ?_
        refine own_st (fr' := (mkF m 175 #[.val (.long p0), .second, .val (.int p1), .val (.long p2), .second, .val (.int p3), .val (.int p4), .val (.long A), .second, .val (.int TA), .val (.long z32_0), .second, .val (.int z35_0), .val (.int kd), .val (.ref b36), .val (.ref b38), .val (.ref b38), .val (.int z51_0), .val (.int y52)] [])) (fun t k => XS.icmpYes X52.here hx rfl (pc0 := 170) (pc' := 175) rfl (hb hby at_170) rfl (own_teq (x := y52) (y := z51_0) (show y52.toInt = z51_0.toInt from by omega)).1 (by decide) (by decide) k) ?_
        refine own_st (fr' := (mkF m 177 #[.val (.long p0), .second, .val (.int p1), .val (.long p2), .second, .val (.int p3), .val (.int p4), .val (.long A), .second, .val (.int TA), .val (.long z32_0), .second, .val (.int z35_0), .val (.int kd), .val (.ref b36), .val (.ref b38), .val (.ref b38), .val (.int z51_0), .val (.int y52)] [(.ref b36)])) (fun t k => XS.aload X52.here hx rfl (hb hby at_175) rfl rfl k) ?_
        refine own_st (fr' := (mkF m 179 #[.val (.long p0), .second, .val (.int p1), .val (.long p2), .second, .val (.int p3), .val (.int p4), .val (.long A), .second, .val (.int TA), .val (.long z32_0), .second, .val (.int z35_0), .val (.int kd), .val (.ref b36), .val (.ref b38), .val (.ref b38), .val (.int z51_0), .val (.int y52)] [(.ref b36), (.ref b36)])) (fun t k => XS.aload X52.here hx rfl (hb hby at_177) rfl rfl k) ?_
        refine own_callV X52 hx hZ (y := (⟨"com/example/timed_net_processes/timednetprocesses/Step", "equals", "(Ljava/lang/Object;)Z"⟩ : MethodName)) (z := (⟨"com/example/timed_net_processes/timednetprocesses/Step", "equals", "(Ljava/lang/Object;)Z"⟩ : MethodName)) hown (hw _ (List.mem_of_getElem? (i := 15) rfl)) (hw _ (List.mem_of_getElem? (i := 16) rfl)) (notFace_of_selects (args := #[]) (mvT hZ (hw _ (List.mem_of_getElem? (i := 18) rfl)))) (hw _ (List.mem_of_getElem? (i := 18) rfl)) (hw _ (List.mem_of_getElem? (i := 17) rfl)) (hw _ (List.mem_of_getElem? (i := 4) rfl)) (hw _ (List.mem_of_getElem? (i := 19) rfl)) (by decide) (a := b36) (argsL := [(.ref b36)]) (rest := []) (W := 0) (rm_eqs l Z a0 hw [] b36 b36 A TA A TA T39.heap n0 (Nat.le_trans (Nat.le_trans (Nat.le_trans (Nat.le_trans Z0 E36.1) K37.1) E38.1) K39.1) (((A36.keep K37).ext E38).keep K39) ((Fc37_0.ext E38).keep K39 (ninS ne38_b36 nin0)) ((Fc37_1.ext E38).keep K39 (ninS ne38_b36 nin0)) ((Fc37_0.ext E38).keep K39 (ninS ne38_b36 nin0)) ((Fc37_1.ext E38).keep K39 (ninS ne38_b36 nin0))) eq52 (((A36.keep K37).ext E38).keep K39) (by rw [hml]; rfl) (lenOf pd_4 rfl) rfl (Nat.le_of_eq rfl) (hb hby at_179) (by decide) (by decide) (by decide) (by decide) ?_
        intro v53 T53 L53 X53 hQ53
        obtain ⟨⟨y53, rfl, hy53⟩, Nq53, eq53⟩ := hQ53
        have N53 := Fr.app N52 Nq53
        refine own_st (fr' := (mkF m 187 #[.val (.long p0), .second, .val (.int p1), .val (.long p2), .second, .val (.int p3), .val (.int p4), .val (.long A), .second, .val (.int TA), .val (.long z32_0), .second, .val (.int z35_0), .val (.int kd), .val (.ref b36), .val (.ref b38), .val (.ref b38), .val (.int z51_0), .val (.int y52)] [])) (fun t k => XS.ifYes X53.here hx rfl (pc0 := 182) (pc' := 187) rfl (hb hby at_182) rfl ((if0 _ _).trans (own_feq (x := y53) (y := (0 : Int32)) (show ¬ y53.toInt = 0 from by omega)).2) (by decide) (by decide) k) ?_
        refine own_st (fr' := (mkF m 189 #[.val (.long p0), .second, .val (.int p1), .val (.long p2), .second, .val (.int p3), .val (.int p4), .val (.long A), .second, .val (.int TA), .val (.long z32_0), .second, .val (.int z35_0), .val (.int kd), .val (.ref b36), .val (.ref b38), .val (.ref b38), .val (.int z51_0), .val (.int y52)] [(.int kd)])) (fun t k => XS.iload X53.here hx rfl (hb hby at_187) rfl  k) ?_
        refine own_st (fr' := (mkF m 192 #[.val (.long p0), .second, .val (.int p1), .val (.long p2), .second, .val (.int p3), .val (.int p4), .val (.long A), .second, .val (.int TA), .val (.long z32_0), .second, .val (.int z35_0), .val (.int kd), .val (.ref b36), .val (.ref b38), .val (.ref b38), .val (.int z51_0), .val (.int y52)] [])) (fun t k => XS.ifNo X53.here hx rfl (hb hby at_189) rfl ((if0 _ _).trans (own_teq (x := kd) (y := (0 : Int32)) (show kd.toInt = 0 from by omega)).2) k) ?_
        refine own_st (fr' := (mkF m 194 #[.val (.long p0), .second, .val (.int p1), .val (.long p2), .second, .val (.int p3), .val (.int p4), .val (.long A), .second, .val (.int TA), .val (.long z32_0), .second, .val (.int z35_0), .val (.int kd), .val (.ref b36), .val (.ref b38), .val (.ref b38), .val (.int z51_0), .val (.int y52)] [(.ref b38)])) (fun t k => XS.aload X53.here hx rfl (hb hby at_192) rfl rfl k) ?_
        refine own_st (fr' := (mkF m 196 #[.val (.long p0), .second, .val (.int p1), .val (.long p2), .second, .val (.int p3), .val (.int p4), .val (.long A), .second, .val (.int TA), .val (.long z32_0), .second, .val (.int z35_0), .val (.int kd), .val (.ref b36), .val (.ref b38), .val (.ref b38), .val (.int z51_0), .val (.int y52)] [(.ref b36), (.ref b38)])) (fun t k => XS.aload X53.here hx rfl (hb hby at_194) rfl rfl k) ?_
        refine own_callV X53 hx hZ (y := (⟨"com/example/timed_net_processes/timednetprocesses/Step", "equals", "(Ljava/lang/Object;)Z"⟩ : MethodName)) (z := (⟨"com/example/timed_net_processes/timednetprocesses/Step", "equals", "(Ljava/lang/Object;)Z"⟩ : MethodName)) hown (hw _ (List.mem_of_getElem? (i := 15) rfl)) (hw _ (List.mem_of_getElem? (i := 16) rfl)) (notFace_of_selects (args := #[]) (mvT hZ (hw _ (List.mem_of_getElem? (i := 18) rfl)))) (hw _ (List.mem_of_getElem? (i := 18) rfl)) (hw _ (List.mem_of_getElem? (i := 17) rfl)) (hw _ (List.mem_of_getElem? (i := 4) rfl)) (hw _ (List.mem_of_getElem? (i := 19) rfl)) (by decide) (a := b38) (argsL := [(.ref b36)]) (rest := []) (W := 0) (rm_eqs l Z a0 hw [] b38 b36 z32_0 z35_0 A TA T39.heap n0 (Nat.le_trans (Nat.le_trans (Nat.le_trans (Nat.le_trans Z0 E36.1) K37.1) E38.1) K39.1) (((A36.keep K37).ext E38).keep K39) Fc39_0 Fc39_1 ((Fc37_0.ext E38).keep K39 (ninS ne38_b36 nin0)) ((Fc37_1.ext E38).keep K39 (ninS ne38_b36 nin0))) eq53 (A38.keep K39) (by rw [hml]; rfl) (lenOf pd_4 rfl) rfl (Nat.le_of_eq rfl) (hb hby at_196) (by decide) (by decide) (by decide) (by decide) ?_
        intro v54 T54 L54 X54 hQ54
        obtain ⟨⟨y54, rfl, hy54⟩, Nq54, eq54⟩ := hQ54
        have N54 := Fr.app N53 Nq54
        refine own_st (fr' := (mkF m 201 #[.val (.long p0), .second, .val (.int p1), .val (.long p2), .second, .val (.int p3), .val (.int p4), .val (.long A), .second, .val (.int TA), .val (.long z32_0), .second, .val (.int z35_0), .val (.int kd), .val (.ref b36), .val (.ref b38), .val (.ref b38), .val (.int z51_0), .val (.int y52)] [(.int y52), (.int y54)])) (fun t k => XS.iload X54.here hx rfl (hb hby at_199) rfl  k) ?_
        refine own_st (fr' := (mkF m 206 #[.val (.long p0), .second, .val (.int p1), .val (.long p2), .second, .val (.int p3), .val (.int p4), .val (.long A), .second, .val (.int TA), .val (.long z32_0), .second, .val (.int z35_0), .val (.int kd), .val (.ref b36), .val (.ref b38), .val (.ref b38), .val (.int z51_0), .val (.int y52)] [])) (fun t k => XS.icmpYes X54.here hx rfl (pc0 := 201) (pc' := 206) rfl (hb hby at_201) rfl (own_teq (x := y54) (y := y52) (show y54.toInt = y52.toInt from by omega)).1 (by decide) (by decide) k) ?_
        refine own_st (fr' := (mkF m 207 #[.val (.long p0), .second, .val (.int p1), .val (.long p2), .second, .val (.int p3), .val (.int p4), .val (.long A), .second, .val (.int TA), .val (.long z32_0), .second, .val (.int z35_0), .val (.int kd), .val (.ref b36), .val (.ref b38), .val (.ref b38), .val (.int z51_0), .val (.int y52)] [(.int (1 : Int32))])) (fun t k => XS.iconst X54.here hx rfl (hb hby at_206) k) ?_
        exact own_retZ X54 hx hlk hret (Or.inr rfl) (hb hby at_207) (by decide) (by decide) (⟨rfl, N54⟩)
set_option maxRecDepth 65536 in
set_option maxHeartbeats 40000000 in
theorem comes_1 {Post : Tables → Env → Array Value → State → Outcome → State → Prop} (hpost : ∀ tb e args s v u, (limb_1_1.after args s (.returned v) u = true ∧ limb_1_2.after args s (.returned v) u = true ∧ True) → FrameEnd s (.returned v) u (Jvm.fieldLocs frame_1_writes args s ++ Jvm.arrayLocs frame_1_arrays args s ++ Jvm.staticLocs frame_1_statics s) 16 128 → Post tb e args s (.returned v) u) :
    ArmFor flags0 classFile x code maxLocals ret World_1 tables_1 room_1 Calls_1 rest_1 Pre_1 Post := by
  intro l hfl _ _ p e ha hc hk s m args below hf hA hF happ hP
  obtain ⟨hcalls, hrest, hpre⟩ := hP
  obtain ⟨-, -, -, hnamed, -, -, -, hat⟩ := (Spec.applies_iff hf).mp happ
  obtain ⟨hg, hn⟩ := and_e (Cond.before_iff.mp (show (Jvm.Cond.and given_1 narrow_1).before args s = true from hpre))
  obtain ⟨hcount, ha0⟩ := and_e hg
  obtain ⟨hi0, ha1⟩ := and_e ha0
  obtain ⟨hi1, ha2⟩ := and_e ha1
  obtain ⟨hi2, ha3⟩ := and_e ha2
  obtain ⟨hi3, ha4⟩ := and_e ha3
  have hi4 := ha4
  obtain ⟨w0, w1, w2, w3, w4, rfl⟩ : ∃ w0 w1 w2 w3 w4 : Value, args = #[w0, w1, w2, w3, w4] := by
    have hs : args.size = 5 := by simpa [Cond.value, given_1] using hcount
    obtain ⟨L⟩ := args
    match L, hs with
    | [w0, w1, w2, w3, w4], _ => exact ⟨w0, w1, w2, w3, w4, rfl⟩
  have hw := fun d (hd : d ∈ tables_1) => atoms_spec (ws := Jvm.Cond.code x code maxLocals ret :: tables_1) hat d (List.mem_cons_of_mem _ hd)
  obtain ⟨hsets, hown0⟩ := atoms_of _ (rest_1_c_eq ▸ (show rest_1_c.before _ s = true from hrest))
  have hfit : Fit s := fun {y c} hc i hi => by
    obtain ⟨ha, rfl⟩ := Array.getElem?_eq_some_iff.mp hc
    have q := List.all_eq_true.mp ((Array.all_eq_true_iff_forall_mem.mp hF) _ (Array.getElem_mem ha)) i (List.mem_range.mpr hi)
    simpa [Array.getElem?_eq_getElem hi] using q
  obtain ⟨i0, ei0⟩ := isL_v hi0
  obtain rfl : w0 = (.long i0) := Option.some.inj ei0
  obtain ⟨i1, ei1⟩ := is_v hi1
  obtain rfl : w1 = (.int i1) := Option.some.inj ei1
  obtain ⟨i2, ei2⟩ := isL_v hi2
  obtain rfl : w2 = (.long i2) := Option.some.inj ei2
  obtain ⟨i3, ei3⟩ := is_v hi3
  obtain rfl : w3 = (.int i3) := Option.some.inj ei3
  obtain ⟨i4, ei4⟩ := is_v hi4
  obtain rfl : w4 = (.int i4) := Option.some.inj ei4
  have eh := own_eqv (Cond.before_iff.mp (hsets _ (List.mem_of_getElem? (i := 3) rfl)))
  have S_h := Sta.start eh (Or.inl (hsets _ (List.mem_of_getElem? (i := 1) rfl)))
  have hAI := Cond.before_iff.mp (hsets _ (List.mem_of_getElem? (i := 4) rfl))
  obtain ⟨caI, ecI⟩ := arr_v hAI
  have S_cI := Sta.start ecI (Or.inr ⟨(hw _ (List.mem_of_getElem? (i := 51) rfl)), (hsets _ (List.mem_of_getElem? (i := 2) rfl))⟩)
  obtain ⟨fcI, V_cI, ICI⟩ := own_cache (fun _ => ecI) hAI (Cond.before_iff.mp (hsets _ (List.mem_of_getElem? (i := 6) rfl))) (Cond.before_iff.mp (hsets _ (List.mem_of_getElem? (i := 7) rfl)))
  have hAL := Cond.before_iff.mp (hsets _ (List.mem_of_getElem? (i := 10) rfl))
  obtain ⟨caL, ecL⟩ := arr_v hAL
  have S_cL := Sta.start ecL (Or.inl (hsets _ (List.mem_of_getElem? (i := 9) rfl)))
  obtain ⟨fcL, V_cL, ICL⟩ := own_cache (fun _ => ecL) hAL (Cond.before_iff.mp (hsets _ (List.mem_of_getElem? (i := 12) rfl))) (Cond.before_iff.mp (hsets _ (List.mem_of_getElem? (i := 13) rfl)))
  obtain ⟨n, o, h1, h2, h3, _, L, rfl, ⟨rfl, N⟩, hq⟩ := rm_law l s _ hw tables_1 i0 i1 i2 i3 i4 caI fcI caL fcL s.heap s.heap.size (Nat.le_refl _) S_h S_cI V_cI ICI S_cL V_cL ICL p e ha hc hk s m _ below hf ((Spec.applies_iff_loose hf).mp happ).1 ⟨rfl, State.Warmed39.refl s, rfl⟩ trivial
  refine ⟨n, _, h1, h2, h3, hpost _ _ _ _ _ _ ⟨Cond.after_iff.mpr rfl, Cond.after_iff.mpr (eq_i res_at (Term.int_eval (1)) rfl), trivial⟩ ⟨hq.1, hq.2.1, (hq.2.2.sift fun y hy => Or.inr (N y hy)).mono (by decide) (by decide)⟩⟩
theorem main_1_1 : Claimed_1_1 := comes_1 fun _ _ _ _ _ _ h hF => ⟨h.1, hF⟩
theorem main_1_2 : Claimed_1_2 := comes_1 fun _ _ _ _ _ _ h hF => ⟨h.2.1, hF⟩
end Jvm.Pilot.@@N@@
namespace Jvm.Pilot.@@N@@
open Jvm Jvm.ClassFile Sem Op Lib Jvm.Free Jvm.Stand Jvm.Pilot.@@N@@.Jvm.D
/-! MADE BY PROGRAM (witnessworld.py) out of the Statement's table words and the real class files: 19 classes; the members and pool entries that the words name. The judged class is class 1, her method 1. -/
namespace start1
open Jvm.ClassFile
def u (s : String) : CpInfo := .utf8 (stringToUtf16 s)
/-- a pool by its gaps: so many unusable entries, then the entry; so many at the end -/
def gap : Nat → List CpInfo → List CpInfo
  | 0, r => r
  | n + 1, r => .unusable :: gap n r
def poolList (es : List (Nat × CpInfo)) (last : Nat) : List CpInfo := es.foldr (fun e r => gap e.1 (e.2 :: r)) (gap last [])
def pool (es : List (Nat × CpInfo)) (last : Nat) : Array CpInfo := ⟨poolList es last⟩
def fileOf (pool : Array CpInfo) (this : Nat) (attrs : Array Attribute := #[]) (ms : Array MethodInfo := #[]) (fl : Nat := 33) (sup : Nat := 0) (ifs : Array Nat := #[]) (fds : Array FieldInfo := #[]) : ClassFile where
  minorVersion := 0
  majorVersion := 65
  constantPool := pool
  accessFlags := fl
  thisClass := this
  superClass := sup
  interfaces := ifs
  fields := fds
  methods := ms
  attributes := attrs
def plain (name : String) (sup : Option ClassId) : Class where
  name := name
  kind := .ordinary
  loader := none
  accessFlags := 33
  super := sup
  interfaces := #[]
  cf := none
  fields := #[]
  methods := #[]
  instanceTypes := #[]
  staticTypes := #[]
  resolved := #[]
  callSites := []
  init := .initialized
  statics := none
  mirror := none

def pool0 : Array CpInfo := pool [(5, u "<init>"), (0, u "()V"), (1, .class_ 10), (1, u "java/lang/Object")] 113

def k0c0 : Code := { maxStack := 0, maxLocals := 1, code := object_method_1_code, exceptionTable := #[], attributes := #[] }
def k0m0 : Method := { name := "<init>", desc := "()V", sig := { parameters := [], returnType := none }, accessFlags := 1, code := some k0c0 }
/-- java/lang/Object -/
def k0 : Class := { plain "java/lang/Object" none with
  accessFlags := 33
  interfaces := #[]
  cf := some (fileOf pool0 8 #[] #[{ accessFlags := 1, nameIndex := 5, descriptorIndex := 6, attributes := #[] }] 33 0 #[] #[])
  fields := #[]
  methods := #[k0m0]
  instanceTypes := #[]
  staticTypes := #[]
  resolved := Array.replicate 124 none
  statics := none }

def pool1 : Array CpInfo := pool [(2, .class_ 4), (1, u "java/lang/Object"), (0, u "<init>"), (0, u "()V"), (0, .class_ 8), (0, u "java/lang/Long"), (0, .long 9223372036854775807), (1, .integer 2147483647), (0, .class_ 13), (0, u "com/example/timed_net_processes/timednetprocesses/Step"), (0, .methodref 12 15), (0, .nameAndType 5 16), (0, u "(JI)V"), (0, .methodref 7 18), (0, .nameAndType 19 20), (0, u "valueOf"), (0, u "(J)Ljava/lang/Long;"), (0, .methodref 22 23), (0, .class_ 24), (0, .nameAndType 19 25), (0, u "java/lang/Integer"), (0, u "(I)Ljava/lang/Integer;"), (0, .methodref 12 27), (0, .nameAndType 28 29), (0, u "equals"), (0, u "(Ljava/lang/Object;)Z"), (0, .class_ 31), (0, u "com/example/timed_net_processes/timednetprocesses/StepEqualsPinLaw"), (2, u "law"), (0, u "(JIJII)Z")] 3

def k1m0 : Method := { name := "<init>", desc := "()V", sig := { parameters := [], returnType := none }, accessFlags := 2, code := none }
def k1c1 : Code := { maxStack := 5, maxLocals := 19, code := code, exceptionTable := #[], attributes := #[] }
def k1m1 : Method := { name := "law", desc := "(JIJII)Z", sig := { parameters := [.long, .int, .long, .int, .int], returnType := some .boolean }, accessFlags := 9, code := some k1c1 }
/-- com/example/timed_net_processes/timednetprocesses/StepEqualsPinLaw -/
def k1 : Class := { plain "com/example/timed_net_processes/timednetprocesses/StepEqualsPinLaw" (some 0) with
  accessFlags := 49
  interfaces := #[]
  cf := some (fileOf pool1 30 #[] #[{ accessFlags := 2, nameIndex := 5, descriptorIndex := 6, attributes := #[] }, { accessFlags := 9, nameIndex := 34, descriptorIndex := 35, attributes := #[] }] 49 2 #[] #[])
  fields := #[]
  methods := #[k1m0, k1m1]
  instanceTypes := #[]
  staticTypes := #[]
  resolved := Array.replicate 39 none
  statics := none }

def pool2 : Array CpInfo := pool [(1, .methodref 2 3), (0, .class_ 4), (0, .nameAndType 5 6), (0, u "java/lang/Object"), (0, u "<init>"), (0, u "()V"), (9, .fieldref 17 18), (0, .class_ 19), (0, .nameAndType 20 21), (0, u "com/example/timed_net_processes/timednetprocesses/Step"), (0, u "delay"), (0, u "J"), (0, .fieldref 17 23), (0, .nameAndType 24 25), (0, u "transition"), (0, u "I"), (16, u "(JI)V"), (5, u "equals"), (0, u "(Ljava/lang/Object;)Z")] 23

def k2c0 : Code := { maxStack := 5, maxLocals := 4, code := prog_24_method_1_code, exceptionTable := #[], attributes := #[] }
def k2m0 : Method := { name := "<init>", desc := "(JI)V", sig := { parameters := [.long, .int], returnType := none }, accessFlags := 1, code := some k2c0 }
def k2c1 : Code := { maxStack := 4, maxLocals := 3, code := prog_24_method_4_code, exceptionTable := #[], attributes := #[] }
def k2m1 : Method := { name := "equals", desc := "(Ljava/lang/Object;)Z", sig := { parameters := [(.object "java/lang/Object")], returnType := some .boolean }, accessFlags := 1, code := some k2c1 }
/-- com/example/timed_net_processes/timednetprocesses/Step -/
def k2 : Class := { plain "com/example/timed_net_processes/timednetprocesses/Step" (some 0) with
  accessFlags := 33
  interfaces := #[]
  cf := some (fileOf pool2 17 #[] #[{ accessFlags := 1, nameIndex := 5, descriptorIndex := 42, attributes := #[] }, { accessFlags := 1, nameIndex := 48, descriptorIndex := 49, attributes := #[] }] 33 2 #[] #[{ accessFlags := 18, nameIndex := 20, descriptorIndex := 21, attributes := #[] }, { accessFlags := 18, nameIndex := 24, descriptorIndex := 25, attributes := #[] }])
  fields := #[{ name := "delay", type := .long, accessFlags := 18, slot := 0, constantValue := 0 }, { name := "transition", type := .int, accessFlags := 18, slot := 1, constantValue := 0 }]
  methods := #[k2m0, k2m1]
  instanceTypes := #[.long, .int]
  staticTypes := #[]
  resolved := Array.replicate 73 none
  statics := none }

def pool3 : Array CpInfo := pool [(1, .class_ 2), (0, u "java/io/Serializable"), (0, .class_ 4), (0, u "java/lang/Object")] 2

/-- java/io/Serializable -/
def k3 : Class := { plain "java/io/Serializable" (some 0) with
  accessFlags := 1537
  interfaces := #[]
  cf := some (fileOf pool3 1 #[] #[] 1537 3 #[] #[])
  fields := #[]
  methods := #[]
  instanceTypes := #[]
  staticTypes := #[]
  resolved := Array.replicate 7 none
  statics := none }

def pool4 : Array CpInfo := pool [(1, .methodref 2 3), (0, .class_ 4), (0, .nameAndType 5 6), (0, u "java/lang/Object"), (0, u "<init>"), (0, u "()V"), (1, .class_ 10), (1, u "java/lang/Number"), (2, .class_ 14), (0, u "java/io/Serializable"), (0, u "serialVersionUID"), (0, u "J")] 20

def k4c0 : Code := { maxStack := 1, maxLocals := 1, code := jdk_18_method_1_code, exceptionTable := #[], attributes := #[] }
def k4m0 : Method := { name := "<init>", desc := "()V", sig := { parameters := [], returnType := none }, accessFlags := 1, code := some k4c0 }
/-- java/lang/Number -/
def k4 : Class := { plain "java/lang/Number" (some 0) with
  accessFlags := 1057
  interfaces := #[3]
  cf := some (fileOf pool4 8 #[] #[{ accessFlags := 1, nameIndex := 5, descriptorIndex := 6, attributes := #[] }] 1057 2 #[13] #[{ accessFlags := 26, nameIndex := 15, descriptorIndex := 16, attributes := #[] }])
  fields := #[{ name := "serialVersionUID", type := .long, accessFlags := 26, slot := 0, constantValue := 0 }]
  methods := #[k4m0]
  instanceTypes := #[]
  staticTypes := #[.long]
  resolved := Array.replicate 37 none
  statics := none }

def pool5 : Array CpInfo := pool [(1, .class_ 2), (0, u "java/lang/Comparable"), (0, .class_ 4), (0, u "java/lang/Object")] 7

/-- java/lang/Comparable -/
def k5 : Class := { plain "java/lang/Comparable" (some 0) with
  accessFlags := 1537
  interfaces := #[]
  cf := some (fileOf pool5 1 #[] #[] 1537 3 #[] #[])
  fields := #[]
  methods := #[]
  instanceTypes := #[]
  staticTypes := #[]
  resolved := Array.replicate 12 none
  statics := none }

def pool6 : Array CpInfo := pool [(1, .class_ 2), (0, u "java/lang/constant/Constable"), (0, .class_ 4), (0, u "java/lang/Object")] 6

/-- java/lang/constant/Constable -/
def k6 : Class := { plain "java/lang/constant/Constable" (some 0) with
  accessFlags := 1537
  interfaces := #[]
  cf := some (fileOf pool6 1 #[] #[] 1537 3 #[] #[])
  fields := #[]
  methods := #[]
  instanceTypes := #[]
  staticTypes := #[]
  resolved := Array.replicate 11 none
  statics := none }

def pool7 : Array CpInfo := pool [(1, .class_ 2), (0, u "java/lang/constant/ConstantDesc"), (0, .class_ 4), (0, u "java/lang/Object")] 32

/-- java/lang/constant/ConstantDesc -/
def k7 : Class := { plain "java/lang/constant/ConstantDesc" (some 0) with
  accessFlags := 1537
  interfaces := #[]
  cf := some (fileOf pool7 1 #[] #[] 1537 3 #[] #[])
  fields := #[]
  methods := #[]
  instanceTypes := #[]
  staticTypes := #[]
  resolved := Array.replicate 37 none
  statics := none }

def pool8 : Array CpInfo := pool [(1, .class_ 2), (0, u "java/lang/Long"), (55, .nameAndType 59 60), (0, u "<init>"), (0, u "()V"), (24, u "valueOf"), (143, u "(J)Ljava/lang/Long;"), (0, .long 18446744073709551488), (1, .long 127), (1, .fieldref 235 236), (0, .class_ 237), (0, .nameAndType 238 239), (0, u "java/lang/Long$LongCache"), (0, u "cache"), (0, u "[Ljava/lang/Long;"), (0, .methodref 1 241), (0, .nameAndType 59 242), (0, u "(J)V"), (27, .methodref 271 58), (0, .class_ 272), (0, u "java/lang/Number"), (0, .fieldref 1 274), (0, .nameAndType 275 276), (0, u "value"), (0, u "J"), (84, u "TYPE"), (0, u "Ljava/lang/Class;"), (0, .class_ 364), (0, u "java/lang/Comparable"), (0, .class_ 366), (0, u "java/lang/constant/Constable"), (0, .class_ 368), (0, u "java/lang/constant/ConstantDesc"), (0, u "MIN_VALUE"), (1, u "MAX_VALUE"), (4, u "SIZE"), (0, u "I"), (1, u "BYTES"), (1, u "serialVersionUID")] 142

def k8c0 : Code := { maxStack := 4, maxLocals := 3, code := jdk_35_method_24_code, exceptionTable := #[], attributes := #[] }
def k8m0 : Method := { name := "valueOf", desc := "(J)Ljava/lang/Long;", sig := { parameters := [.long], returnType := some (.object "java/lang/Long") }, accessFlags := 9, code := some k8c0 }
def k8c1 : Code := { maxStack := 3, maxLocals := 3, code := jdk_35_method_26_code, exceptionTable := #[], attributes := #[] }
def k8m1 : Method := { name := "<init>", desc := "(J)V", sig := { parameters := [.long], returnType := none }, accessFlags := 1, code := some k8c1 }
/-- java/lang/Long -/
def k8 : Class := { plain "java/lang/Long" (some 4) with
  accessFlags := 49
  interfaces := #[5, 6, 7]
  cf := some (fileOf pool8 1 #[.nestMembers #[235]] #[{ accessFlags := 9, nameIndex := 85, descriptorIndex := 229, attributes := #[] }, { accessFlags := 1, nameIndex := 59, descriptorIndex := 242, attributes := #[] }] 49 271 #[363, 365, 367] #[{ accessFlags := 25, nameIndex := 369, descriptorIndex := 276, attributes := #[] }, { accessFlags := 25, nameIndex := 371, descriptorIndex := 276, attributes := #[] }, { accessFlags := 25, nameIndex := 361, descriptorIndex := 362, attributes := #[] }, { accessFlags := 18, nameIndex := 275, descriptorIndex := 276, attributes := #[] }, { accessFlags := 25, nameIndex := 376, descriptorIndex := 377, attributes := #[] }, { accessFlags := 25, nameIndex := 379, descriptorIndex := 377, attributes := #[] }, { accessFlags := 26, nameIndex := 381, descriptorIndex := 276, attributes := #[] }])
  fields := #[{ name := "MIN_VALUE", type := .long, accessFlags := 25, slot := 0, constantValue := 0 }, { name := "MAX_VALUE", type := .long, accessFlags := 25, slot := 1, constantValue := 0 }, { name := "TYPE", type := (.object "java/lang/Class"), accessFlags := 25, slot := 2, constantValue := 0 }, { name := "value", type := .long, accessFlags := 18, slot := 0, constantValue := 0 }, { name := "SIZE", type := .int, accessFlags := 25, slot := 3, constantValue := 0 }, { name := "BYTES", type := .int, accessFlags := 25, slot := 4, constantValue := 0 }, { name := "serialVersionUID", type := .long, accessFlags := 26, slot := 5, constantValue := 0 }]
  methods := #[k8m0, k8m1]
  instanceTypes := #[.long]
  staticTypes := #[.long, .long, (.object "java/lang/Class"), .int, .int, .long]
  resolved := Array.replicate 524 none
  statics := none }

def pool9 : Array CpInfo := pool [(1, .class_ 2), (0, u "java/lang/Integer"), (16, u "digits"), (0, u "[C"), (46, u "<init>"), (17, u "DigitOnes"), (0, u "[B"), (2, u "DigitTens"), (10, .nameAndType 67 101), (0, u "()V"), (85, u "valueOf"), (0, u "(I)Ljava/lang/Integer;"), (0, .class_ 190), (0, u "java/lang/Integer$IntegerCache"), (0, .fieldref 189 192), (0, .nameAndType 193 194), (0, u "high"), (0, u "I"), (0, .fieldref 189 196), (0, .nameAndType 197 198), (0, u "cache"), (0, u "[Ljava/lang/Integer;"), (0, .methodref 1 200), (0, .nameAndType 67 201), (0, u "(I)V"), (0, .methodref 203 100), (0, .class_ 204), (0, u "java/lang/Number"), (0, .fieldref 1 206), (0, .nameAndType 207 194), (0, u "value"), (94, u "TYPE"), (0, u "Ljava/lang/Class;"), (0, .class_ 305), (0, u "java/lang/Comparable"), (0, .class_ 307), (0, u "java/lang/constant/Constable"), (0, .class_ 309), (0, u "java/lang/constant/ConstantDesc"), (0, u "MIN_VALUE"), (1, u "MAX_VALUE"), (3, u "SIZE"), (1, u "BYTES"), (1, u "serialVersionUID"), (0, u "J")] 131

def k9c0 : Code := { maxStack := 3, maxLocals := 1, code := jdk_33_method_22_code, exceptionTable := #[], attributes := #[] }
def k9m0 : Method := { name := "valueOf", desc := "(I)Ljava/lang/Integer;", sig := { parameters := [.int], returnType := some (.object "java/lang/Integer") }, accessFlags := 9, code := some k9c0 }
def k9c1 : Code := { maxStack := 2, maxLocals := 2, code := jdk_33_method_23_code, exceptionTable := #[], attributes := #[] }
def k9m1 : Method := { name := "<init>", desc := "(I)V", sig := { parameters := [.int], returnType := none }, accessFlags := 1, code := some k9c1 }
/-- java/lang/Integer -/
def k9 : Class := { plain "java/lang/Integer" (some 4) with
  accessFlags := 49
  interfaces := #[5, 6, 7]
  cf := some (fileOf pool9 1 #[.nestMembers #[189]] #[{ accessFlags := 9, nameIndex := 187, descriptorIndex := 188, attributes := #[] }, { accessFlags := 1, nameIndex := 67, descriptorIndex := 201, attributes := #[] }] 49 203 #[304, 306, 308] #[{ accessFlags := 25, nameIndex := 310, descriptorIndex := 194, attributes := #[] }, { accessFlags := 25, nameIndex := 312, descriptorIndex := 194, attributes := #[] }, { accessFlags := 25, nameIndex := 302, descriptorIndex := 303, attributes := #[] }, { accessFlags := 24, nameIndex := 19, descriptorIndex := 20, attributes := #[] }, { accessFlags := 24, nameIndex := 89, descriptorIndex := 86, attributes := #[] }, { accessFlags := 24, nameIndex := 85, descriptorIndex := 86, attributes := #[] }, { accessFlags := 18, nameIndex := 207, descriptorIndex := 194, attributes := #[] }, { accessFlags := 25, nameIndex := 316, descriptorIndex := 194, attributes := #[] }, { accessFlags := 25, nameIndex := 318, descriptorIndex := 194, attributes := #[] }, { accessFlags := 26, nameIndex := 320, descriptorIndex := 321, attributes := #[] }])
  fields := #[{ name := "MIN_VALUE", type := .int, accessFlags := 25, slot := 0, constantValue := 0 }, { name := "MAX_VALUE", type := .int, accessFlags := 25, slot := 1, constantValue := 0 }, { name := "TYPE", type := (.object "java/lang/Class"), accessFlags := 25, slot := 2, constantValue := 0 }, { name := "digits", type := (.array .char), accessFlags := 24, slot := 3, constantValue := 0 }, { name := "DigitTens", type := (.array .byte), accessFlags := 24, slot := 4, constantValue := 0 }, { name := "DigitOnes", type := (.array .byte), accessFlags := 24, slot := 5, constantValue := 0 }, { name := "value", type := .int, accessFlags := 18, slot := 0, constantValue := 0 }, { name := "SIZE", type := .int, accessFlags := 25, slot := 6, constantValue := 0 }, { name := "BYTES", type := .int, accessFlags := 25, slot := 7, constantValue := 0 }, { name := "serialVersionUID", type := .long, accessFlags := 26, slot := 8, constantValue := 0 }]
  methods := #[k9m0, k9m1]
  instanceTypes := #[.int]
  staticTypes := #[.int, .int, (.object "java/lang/Class"), (.array .char), (.array .byte), (.array .byte), .int, .int, .long]
  resolved := Array.replicate 453 none
  statics := none }

def pool10 : Array CpInfo := pool [(2, .class_ 4), (1, u "java/lang/Object"), (0, u "<init>"), (0, u "()V"), (0, .class_ 8), (0, u "java/lang/Integer"), (7, .class_ 18), (1, u "java/lang/Integer$IntegerCache"), (0, u "$assertionsDisabled"), (0, u "Z"), (26, u "high"), (0, u "I"), (8, u "archivedCache"), (0, u "[Ljava/lang/Integer;"), (12, u "cache"), (0, u "low")] 27

def k10m0 : Method := { name := "<init>", desc := "()V", sig := { parameters := [], returnType := none }, accessFlags := 2, code := none }
/-- java/lang/Integer$IntegerCache -/
def k10 : Class := { plain "java/lang/Integer$IntegerCache" (some 0) with
  accessFlags := 48
  interfaces := #[]
  cf := some (fileOf pool10 16 #[.nestHost 7] #[{ accessFlags := 2, nameIndex := 5, descriptorIndex := 6, attributes := #[] }] 48 2 #[] #[{ accessFlags := 24, nameIndex := 72, descriptorIndex := 48, attributes := #[] }, { accessFlags := 24, nameIndex := 47, descriptorIndex := 48, attributes := #[] }, { accessFlags := 24, nameIndex := 71, descriptorIndex := 58, attributes := #[] }, { accessFlags := 8, nameIndex := 57, descriptorIndex := 58, attributes := #[] }, { accessFlags := 4120, nameIndex := 19, descriptorIndex := 20, attributes := #[] }])
  fields := #[{ name := "low", type := .int, accessFlags := 24, slot := 0, constantValue := 0 }, { name := "high", type := .int, accessFlags := 24, slot := 1, constantValue := 0 }, { name := "cache", type := (.array (.object "java/lang/Integer")), accessFlags := 24, slot := 2, constantValue := 0 }, { name := "archivedCache", type := (.array (.object "java/lang/Integer")), accessFlags := 8, slot := 3, constantValue := 0 }, { name := "$assertionsDisabled", type := .boolean, accessFlags := 4120, slot := 4, constantValue := 0 }]
  methods := #[k10m0]
  instanceTypes := #[]
  staticTypes := #[.int, .int, (.array (.object "java/lang/Integer")), (.array (.object "java/lang/Integer")), .boolean]
  resolved := Array.replicate 100 none
  statics := some 0 }

def pool11 : Array CpInfo := pool [(2, .class_ 4), (1, u "java/lang/Object"), (0, u "<init>"), (0, u "()V"), (0, .class_ 8), (0, u "java/lang/Long"), (7, .class_ 18), (1, u "java/lang/Long$LongCache"), (0, u "$assertionsDisabled"), (0, u "Z"), (8, u "archivedCache"), (0, u "[Ljava/lang/Long;"), (7, u "cache")] 24

def k11m0 : Method := { name := "<init>", desc := "()V", sig := { parameters := [], returnType := none }, accessFlags := 2, code := none }
/-- java/lang/Long$LongCache -/
def k11 : Class := { plain "java/lang/Long$LongCache" (some 0) with
  accessFlags := 48
  interfaces := #[]
  cf := some (fileOf pool11 16 #[.nestHost 7] #[{ accessFlags := 2, nameIndex := 5, descriptorIndex := 6, attributes := #[] }] 48 2 #[] #[{ accessFlags := 24, nameIndex := 38, descriptorIndex := 30, attributes := #[] }, { accessFlags := 8, nameIndex := 29, descriptorIndex := 30, attributes := #[] }, { accessFlags := 4120, nameIndex := 19, descriptorIndex := 20, attributes := #[] }])
  fields := #[{ name := "cache", type := (.array (.object "java/lang/Long")), accessFlags := 24, slot := 0, constantValue := 0 }, { name := "archivedCache", type := (.array (.object "java/lang/Long")), accessFlags := 8, slot := 1, constantValue := 0 }, { name := "$assertionsDisabled", type := .boolean, accessFlags := 4120, slot := 2, constantValue := 0 }]
  methods := #[k11m0]
  instanceTypes := #[]
  staticTypes := #[(.array (.object "java/lang/Long")), (.array (.object "java/lang/Long")), .boolean]
  resolved := Array.replicate 63 none
  statics := some 1 }

def pool12 : Array CpInfo := pool [(1, u "java/lang/Cloneable"), (0, .class_ 1), (0, u "java/lang/Object"), (0, .class_ 3)] 3

/-- java/lang/Cloneable -/
def k12 : Class := { plain "java/lang/Cloneable" (some 0) with
  accessFlags := 1537
  interfaces := #[]
  cf := some (fileOf pool12 2 #[] #[] 1537 4 #[] #[])
  fields := #[]
  methods := #[]
  instanceTypes := #[]
  staticTypes := #[]
  resolved := Array.replicate 8 none
  statics := none }

/-- the primitive byte -/
def k13 : Class := { plain "byte" none with kind := .primitive 'B', accessFlags := 0x411 }
/-- [B -/
def k14 : Class := { plain "[B" (some 0) with kind := .array 13 .byte, interfaces := #[12, 3], accessFlags := 1041 }

/-- the primitive int -/
def k15 : Class := { plain "int" none with kind := .primitive 'I', accessFlags := 0x411 }
/-- [I -/
def k16 : Class := { plain "[I" (some 0) with kind := .array 15 .int, interfaces := #[12, 3], accessFlags := 1041 }

/-- [Ljava/lang/Integer; -/
def k17 : Class := { plain "[Ljava/lang/Integer;" (some 0) with kind := .array 9 (.object "java/lang/Integer"), interfaces := #[12, 3], accessFlags := 1041 }

/-- [Ljava/lang/Long; -/
def k18 : Class := { plain "[Ljava/lang/Long;" (some 0) with kind := .array 8 (.object "java/lang/Long"), interfaces := #[12, 3], accessFlags := 1041 }

def heap : Heap := #[{ cls := 10, slots := #[.int 0, .int 127, .ref 2, .null, .int 0], vm := .statics 10 },
  { cls := 11, slots := #[.ref 3, .null, .int 0], vm := .statics 11 },
  { cls := 17, slots := #[.ref 4, .ref 5, .ref 6, .ref 7, .ref 8, .ref 9, .ref 10, .ref 11, .ref 12, .ref 13, .ref 14, .ref 15, .ref 16, .ref 17, .ref 18, .ref 19, .ref 20, .ref 21, .ref 22, .ref 23, .ref 24, .ref 25, .ref 26, .ref 27, .ref 28, .ref 29, .ref 30, .ref 31, .ref 32, .ref 33, .ref 34, .ref 35, .ref 36, .ref 37, .ref 38, .ref 39, .ref 40, .ref 41, .ref 42, .ref 43, .ref 44, .ref 45, .ref 46, .ref 47, .ref 48, .ref 49, .ref 50, .ref 51, .ref 52, .ref 53, .ref 54, .ref 55, .ref 56, .ref 57, .ref 58, .ref 59, .ref 60, .ref 61, .ref 62, .ref 63, .ref 64, .ref 65, .ref 66, .ref 67, .ref 68, .ref 69, .ref 70, .ref 71, .ref 72, .ref 73, .ref 74, .ref 75, .ref 76, .ref 77, .ref 78, .ref 79, .ref 80, .ref 81, .ref 82, .ref 83, .ref 84, .ref 85, .ref 86, .ref 87, .ref 88, .ref 89, .ref 90, .ref 91, .ref 92, .ref 93, .ref 94, .ref 95, .ref 96, .ref 97, .ref 98, .ref 99, .ref 100, .ref 101, .ref 102, .ref 103, .ref 104, .ref 105, .ref 106, .ref 107, .ref 108, .ref 109, .ref 110, .ref 111, .ref 112, .ref 113, .ref 114, .ref 115, .ref 116, .ref 117, .ref 118, .ref 119, .ref 120, .ref 121, .ref 122, .ref 123, .ref 124, .ref 125, .ref 126, .ref 127, .ref 128, .ref 129, .ref 130, .ref 131, .ref 132, .ref 133, .ref 134, .ref 135, .ref 136, .ref 137, .ref 138, .ref 139, .ref 140, .ref 141, .ref 142, .ref 143, .ref 144, .ref 145, .ref 146, .ref 147, .ref 148, .ref 149, .ref 150, .ref 151, .ref 152, .ref 153, .ref 154, .ref 155, .ref 156, .ref 157, .ref 158, .ref 159, .ref 160, .ref 161, .ref 162, .ref 163, .ref 164, .ref 165, .ref 166, .ref 167, .ref 168, .ref 169, .ref 170, .ref 171, .ref 172, .ref 173, .ref 174, .ref 175, .ref 176, .ref 177, .ref 178, .ref 179, .ref 180, .ref 181, .ref 182, .ref 183, .ref 184, .ref 185, .ref 186, .ref 187, .ref 188, .ref 189, .ref 190, .ref 191, .ref 192, .ref 193, .ref 194, .ref 195, .ref 196, .ref 197, .ref 198, .ref 199, .ref 200, .ref 201, .ref 202, .ref 203, .ref 204, .ref 205, .ref 206, .ref 207, .ref 208, .ref 209, .ref 210, .ref 211, .ref 212, .ref 213, .ref 214, .ref 215, .ref 216, .ref 217, .ref 218, .ref 219, .ref 220, .ref 221, .ref 222, .ref 223, .ref 224, .ref 225, .ref 226, .ref 227, .ref 228, .ref 229, .ref 230, .ref 231, .ref 232, .ref 233, .ref 234, .ref 235, .ref 236, .ref 237, .ref 238, .ref 239, .ref 240, .ref 241, .ref 242, .ref 243, .ref 244, .ref 245, .ref 246, .ref 247, .ref 248, .ref 249, .ref 250, .ref 251, .ref 252, .ref 253, .ref 254, .ref 255, .ref 256, .ref 257, .ref 258, .ref 259], vm := .none },
  { cls := 18, slots := #[.ref 260, .ref 261, .ref 262, .ref 263, .ref 264, .ref 265, .ref 266, .ref 267, .ref 268, .ref 269, .ref 270, .ref 271, .ref 272, .ref 273, .ref 274, .ref 275, .ref 276, .ref 277, .ref 278, .ref 279, .ref 280, .ref 281, .ref 282, .ref 283, .ref 284, .ref 285, .ref 286, .ref 287, .ref 288, .ref 289, .ref 290, .ref 291, .ref 292, .ref 293, .ref 294, .ref 295, .ref 296, .ref 297, .ref 298, .ref 299, .ref 300, .ref 301, .ref 302, .ref 303, .ref 304, .ref 305, .ref 306, .ref 307, .ref 308, .ref 309, .ref 310, .ref 311, .ref 312, .ref 313, .ref 314, .ref 315, .ref 316, .ref 317, .ref 318, .ref 319, .ref 320, .ref 321, .ref 322, .ref 323, .ref 324, .ref 325, .ref 326, .ref 327, .ref 328, .ref 329, .ref 330, .ref 331, .ref 332, .ref 333, .ref 334, .ref 335, .ref 336, .ref 337, .ref 338, .ref 339, .ref 340, .ref 341, .ref 342, .ref 343, .ref 344, .ref 345, .ref 346, .ref 347, .ref 348, .ref 349, .ref 350, .ref 351, .ref 352, .ref 353, .ref 354, .ref 355, .ref 356, .ref 357, .ref 358, .ref 359, .ref 360, .ref 361, .ref 362, .ref 363, .ref 364, .ref 365, .ref 366, .ref 367, .ref 368, .ref 369, .ref 370, .ref 371, .ref 372, .ref 373, .ref 374, .ref 375, .ref 376, .ref 377, .ref 378, .ref 379, .ref 380, .ref 381, .ref 382, .ref 383, .ref 384, .ref 385, .ref 386, .ref 387, .ref 388, .ref 389, .ref 390, .ref 391, .ref 392, .ref 393, .ref 394, .ref 395, .ref 396, .ref 397, .ref 398, .ref 399, .ref 400, .ref 401, .ref 402, .ref 403, .ref 404, .ref 405, .ref 406, .ref 407, .ref 408, .ref 409, .ref 410, .ref 411, .ref 412, .ref 413, .ref 414, .ref 415, .ref 416, .ref 417, .ref 418, .ref 419, .ref 420, .ref 421, .ref 422, .ref 423, .ref 424, .ref 425, .ref 426, .ref 427, .ref 428, .ref 429, .ref 430, .ref 431, .ref 432, .ref 433, .ref 434, .ref 435, .ref 436, .ref 437, .ref 438, .ref 439, .ref 440, .ref 441, .ref 442, .ref 443, .ref 444, .ref 445, .ref 446, .ref 447, .ref 448, .ref 449, .ref 450, .ref 451, .ref 452, .ref 453, .ref 454, .ref 455, .ref 456, .ref 457, .ref 458, .ref 459, .ref 460, .ref 461, .ref 462, .ref 463, .ref 464, .ref 465, .ref 466, .ref 467, .ref 468, .ref 469, .ref 470, .ref 471, .ref 472, .ref 473, .ref 474, .ref 475, .ref 476, .ref 477, .ref 478, .ref 479, .ref 480, .ref 481, .ref 482, .ref 483, .ref 484, .ref 485, .ref 486, .ref 487, .ref 488, .ref 489, .ref 490, .ref 491, .ref 492, .ref 493, .ref 494, .ref 495, .ref 496, .ref 497, .ref 498, .ref 499, .ref 500, .ref 501, .ref 502, .ref 503, .ref 504, .ref 505, .ref 506, .ref 507, .ref 508, .ref 509, .ref 510, .ref 511, .ref 512, .ref 513, .ref 514, .ref 515], vm := .none },
  { cls := 9, slots := #[.int (-128)], vm := .none },
  { cls := 9, slots := #[.int (-127)], vm := .none },
  { cls := 9, slots := #[.int (-126)], vm := .none },
  { cls := 9, slots := #[.int (-125)], vm := .none },
  { cls := 9, slots := #[.int (-124)], vm := .none },
  { cls := 9, slots := #[.int (-123)], vm := .none },
  { cls := 9, slots := #[.int (-122)], vm := .none },
  { cls := 9, slots := #[.int (-121)], vm := .none },
  { cls := 9, slots := #[.int (-120)], vm := .none },
  { cls := 9, slots := #[.int (-119)], vm := .none },
  { cls := 9, slots := #[.int (-118)], vm := .none },
  { cls := 9, slots := #[.int (-117)], vm := .none },
  { cls := 9, slots := #[.int (-116)], vm := .none },
  { cls := 9, slots := #[.int (-115)], vm := .none },
  { cls := 9, slots := #[.int (-114)], vm := .none },
  { cls := 9, slots := #[.int (-113)], vm := .none },
  { cls := 9, slots := #[.int (-112)], vm := .none },
  { cls := 9, slots := #[.int (-111)], vm := .none },
  { cls := 9, slots := #[.int (-110)], vm := .none },
  { cls := 9, slots := #[.int (-109)], vm := .none },
  { cls := 9, slots := #[.int (-108)], vm := .none },
  { cls := 9, slots := #[.int (-107)], vm := .none },
  { cls := 9, slots := #[.int (-106)], vm := .none },
  { cls := 9, slots := #[.int (-105)], vm := .none },
  { cls := 9, slots := #[.int (-104)], vm := .none },
  { cls := 9, slots := #[.int (-103)], vm := .none },
  { cls := 9, slots := #[.int (-102)], vm := .none },
  { cls := 9, slots := #[.int (-101)], vm := .none },
  { cls := 9, slots := #[.int (-100)], vm := .none },
  { cls := 9, slots := #[.int (-99)], vm := .none },
  { cls := 9, slots := #[.int (-98)], vm := .none },
  { cls := 9, slots := #[.int (-97)], vm := .none },
  { cls := 9, slots := #[.int (-96)], vm := .none },
  { cls := 9, slots := #[.int (-95)], vm := .none },
  { cls := 9, slots := #[.int (-94)], vm := .none },
  { cls := 9, slots := #[.int (-93)], vm := .none },
  { cls := 9, slots := #[.int (-92)], vm := .none },
  { cls := 9, slots := #[.int (-91)], vm := .none },
  { cls := 9, slots := #[.int (-90)], vm := .none },
  { cls := 9, slots := #[.int (-89)], vm := .none },
  { cls := 9, slots := #[.int (-88)], vm := .none },
  { cls := 9, slots := #[.int (-87)], vm := .none },
  { cls := 9, slots := #[.int (-86)], vm := .none },
  { cls := 9, slots := #[.int (-85)], vm := .none },
  { cls := 9, slots := #[.int (-84)], vm := .none },
  { cls := 9, slots := #[.int (-83)], vm := .none },
  { cls := 9, slots := #[.int (-82)], vm := .none },
  { cls := 9, slots := #[.int (-81)], vm := .none },
  { cls := 9, slots := #[.int (-80)], vm := .none },
  { cls := 9, slots := #[.int (-79)], vm := .none },
  { cls := 9, slots := #[.int (-78)], vm := .none },
  { cls := 9, slots := #[.int (-77)], vm := .none },
  { cls := 9, slots := #[.int (-76)], vm := .none },
  { cls := 9, slots := #[.int (-75)], vm := .none },
  { cls := 9, slots := #[.int (-74)], vm := .none },
  { cls := 9, slots := #[.int (-73)], vm := .none },
  { cls := 9, slots := #[.int (-72)], vm := .none },
  { cls := 9, slots := #[.int (-71)], vm := .none },
  { cls := 9, slots := #[.int (-70)], vm := .none },
  { cls := 9, slots := #[.int (-69)], vm := .none },
  { cls := 9, slots := #[.int (-68)], vm := .none },
  { cls := 9, slots := #[.int (-67)], vm := .none },
  { cls := 9, slots := #[.int (-66)], vm := .none },
  { cls := 9, slots := #[.int (-65)], vm := .none },
  { cls := 9, slots := #[.int (-64)], vm := .none },
  { cls := 9, slots := #[.int (-63)], vm := .none },
  { cls := 9, slots := #[.int (-62)], vm := .none },
  { cls := 9, slots := #[.int (-61)], vm := .none },
  { cls := 9, slots := #[.int (-60)], vm := .none },
  { cls := 9, slots := #[.int (-59)], vm := .none },
  { cls := 9, slots := #[.int (-58)], vm := .none },
  { cls := 9, slots := #[.int (-57)], vm := .none },
  { cls := 9, slots := #[.int (-56)], vm := .none },
  { cls := 9, slots := #[.int (-55)], vm := .none },
  { cls := 9, slots := #[.int (-54)], vm := .none },
  { cls := 9, slots := #[.int (-53)], vm := .none },
  { cls := 9, slots := #[.int (-52)], vm := .none },
  { cls := 9, slots := #[.int (-51)], vm := .none },
  { cls := 9, slots := #[.int (-50)], vm := .none },
  { cls := 9, slots := #[.int (-49)], vm := .none },
  { cls := 9, slots := #[.int (-48)], vm := .none },
  { cls := 9, slots := #[.int (-47)], vm := .none },
  { cls := 9, slots := #[.int (-46)], vm := .none },
  { cls := 9, slots := #[.int (-45)], vm := .none },
  { cls := 9, slots := #[.int (-44)], vm := .none },
  { cls := 9, slots := #[.int (-43)], vm := .none },
  { cls := 9, slots := #[.int (-42)], vm := .none },
  { cls := 9, slots := #[.int (-41)], vm := .none },
  { cls := 9, slots := #[.int (-40)], vm := .none },
  { cls := 9, slots := #[.int (-39)], vm := .none },
  { cls := 9, slots := #[.int (-38)], vm := .none },
  { cls := 9, slots := #[.int (-37)], vm := .none },
  { cls := 9, slots := #[.int (-36)], vm := .none },
  { cls := 9, slots := #[.int (-35)], vm := .none },
  { cls := 9, slots := #[.int (-34)], vm := .none },
  { cls := 9, slots := #[.int (-33)], vm := .none },
  { cls := 9, slots := #[.int (-32)], vm := .none },
  { cls := 9, slots := #[.int (-31)], vm := .none },
  { cls := 9, slots := #[.int (-30)], vm := .none },
  { cls := 9, slots := #[.int (-29)], vm := .none },
  { cls := 9, slots := #[.int (-28)], vm := .none },
  { cls := 9, slots := #[.int (-27)], vm := .none },
  { cls := 9, slots := #[.int (-26)], vm := .none },
  { cls := 9, slots := #[.int (-25)], vm := .none },
  { cls := 9, slots := #[.int (-24)], vm := .none },
  { cls := 9, slots := #[.int (-23)], vm := .none },
  { cls := 9, slots := #[.int (-22)], vm := .none },
  { cls := 9, slots := #[.int (-21)], vm := .none },
  { cls := 9, slots := #[.int (-20)], vm := .none },
  { cls := 9, slots := #[.int (-19)], vm := .none },
  { cls := 9, slots := #[.int (-18)], vm := .none },
  { cls := 9, slots := #[.int (-17)], vm := .none },
  { cls := 9, slots := #[.int (-16)], vm := .none },
  { cls := 9, slots := #[.int (-15)], vm := .none },
  { cls := 9, slots := #[.int (-14)], vm := .none },
  { cls := 9, slots := #[.int (-13)], vm := .none },
  { cls := 9, slots := #[.int (-12)], vm := .none },
  { cls := 9, slots := #[.int (-11)], vm := .none },
  { cls := 9, slots := #[.int (-10)], vm := .none },
  { cls := 9, slots := #[.int (-9)], vm := .none },
  { cls := 9, slots := #[.int (-8)], vm := .none },
  { cls := 9, slots := #[.int (-7)], vm := .none },
  { cls := 9, slots := #[.int (-6)], vm := .none },
  { cls := 9, slots := #[.int (-5)], vm := .none },
  { cls := 9, slots := #[.int (-4)], vm := .none },
  { cls := 9, slots := #[.int (-3)], vm := .none },
  { cls := 9, slots := #[.int (-2)], vm := .none },
  { cls := 9, slots := #[.int (-1)], vm := .none },
  { cls := 9, slots := #[.int 0], vm := .none },
  { cls := 9, slots := #[.int 1], vm := .none },
  { cls := 9, slots := #[.int 2], vm := .none },
  { cls := 9, slots := #[.int 3], vm := .none },
  { cls := 9, slots := #[.int 4], vm := .none },
  { cls := 9, slots := #[.int 5], vm := .none },
  { cls := 9, slots := #[.int 6], vm := .none },
  { cls := 9, slots := #[.int 7], vm := .none },
  { cls := 9, slots := #[.int 8], vm := .none },
  { cls := 9, slots := #[.int 9], vm := .none },
  { cls := 9, slots := #[.int 10], vm := .none },
  { cls := 9, slots := #[.int 11], vm := .none },
  { cls := 9, slots := #[.int 12], vm := .none },
  { cls := 9, slots := #[.int 13], vm := .none },
  { cls := 9, slots := #[.int 14], vm := .none },
  { cls := 9, slots := #[.int 15], vm := .none },
  { cls := 9, slots := #[.int 16], vm := .none },
  { cls := 9, slots := #[.int 17], vm := .none },
  { cls := 9, slots := #[.int 18], vm := .none },
  { cls := 9, slots := #[.int 19], vm := .none },
  { cls := 9, slots := #[.int 20], vm := .none },
  { cls := 9, slots := #[.int 21], vm := .none },
  { cls := 9, slots := #[.int 22], vm := .none },
  { cls := 9, slots := #[.int 23], vm := .none },
  { cls := 9, slots := #[.int 24], vm := .none },
  { cls := 9, slots := #[.int 25], vm := .none },
  { cls := 9, slots := #[.int 26], vm := .none },
  { cls := 9, slots := #[.int 27], vm := .none },
  { cls := 9, slots := #[.int 28], vm := .none },
  { cls := 9, slots := #[.int 29], vm := .none },
  { cls := 9, slots := #[.int 30], vm := .none },
  { cls := 9, slots := #[.int 31], vm := .none },
  { cls := 9, slots := #[.int 32], vm := .none },
  { cls := 9, slots := #[.int 33], vm := .none },
  { cls := 9, slots := #[.int 34], vm := .none },
  { cls := 9, slots := #[.int 35], vm := .none },
  { cls := 9, slots := #[.int 36], vm := .none },
  { cls := 9, slots := #[.int 37], vm := .none },
  { cls := 9, slots := #[.int 38], vm := .none },
  { cls := 9, slots := #[.int 39], vm := .none },
  { cls := 9, slots := #[.int 40], vm := .none },
  { cls := 9, slots := #[.int 41], vm := .none },
  { cls := 9, slots := #[.int 42], vm := .none },
  { cls := 9, slots := #[.int 43], vm := .none },
  { cls := 9, slots := #[.int 44], vm := .none },
  { cls := 9, slots := #[.int 45], vm := .none },
  { cls := 9, slots := #[.int 46], vm := .none },
  { cls := 9, slots := #[.int 47], vm := .none },
  { cls := 9, slots := #[.int 48], vm := .none },
  { cls := 9, slots := #[.int 49], vm := .none },
  { cls := 9, slots := #[.int 50], vm := .none },
  { cls := 9, slots := #[.int 51], vm := .none },
  { cls := 9, slots := #[.int 52], vm := .none },
  { cls := 9, slots := #[.int 53], vm := .none },
  { cls := 9, slots := #[.int 54], vm := .none },
  { cls := 9, slots := #[.int 55], vm := .none },
  { cls := 9, slots := #[.int 56], vm := .none },
  { cls := 9, slots := #[.int 57], vm := .none },
  { cls := 9, slots := #[.int 58], vm := .none },
  { cls := 9, slots := #[.int 59], vm := .none },
  { cls := 9, slots := #[.int 60], vm := .none },
  { cls := 9, slots := #[.int 61], vm := .none },
  { cls := 9, slots := #[.int 62], vm := .none },
  { cls := 9, slots := #[.int 63], vm := .none },
  { cls := 9, slots := #[.int 64], vm := .none },
  { cls := 9, slots := #[.int 65], vm := .none },
  { cls := 9, slots := #[.int 66], vm := .none },
  { cls := 9, slots := #[.int 67], vm := .none },
  { cls := 9, slots := #[.int 68], vm := .none },
  { cls := 9, slots := #[.int 69], vm := .none },
  { cls := 9, slots := #[.int 70], vm := .none },
  { cls := 9, slots := #[.int 71], vm := .none },
  { cls := 9, slots := #[.int 72], vm := .none },
  { cls := 9, slots := #[.int 73], vm := .none },
  { cls := 9, slots := #[.int 74], vm := .none },
  { cls := 9, slots := #[.int 75], vm := .none },
  { cls := 9, slots := #[.int 76], vm := .none },
  { cls := 9, slots := #[.int 77], vm := .none },
  { cls := 9, slots := #[.int 78], vm := .none },
  { cls := 9, slots := #[.int 79], vm := .none },
  { cls := 9, slots := #[.int 80], vm := .none },
  { cls := 9, slots := #[.int 81], vm := .none },
  { cls := 9, slots := #[.int 82], vm := .none },
  { cls := 9, slots := #[.int 83], vm := .none },
  { cls := 9, slots := #[.int 84], vm := .none },
  { cls := 9, slots := #[.int 85], vm := .none },
  { cls := 9, slots := #[.int 86], vm := .none },
  { cls := 9, slots := #[.int 87], vm := .none },
  { cls := 9, slots := #[.int 88], vm := .none },
  { cls := 9, slots := #[.int 89], vm := .none },
  { cls := 9, slots := #[.int 90], vm := .none },
  { cls := 9, slots := #[.int 91], vm := .none },
  { cls := 9, slots := #[.int 92], vm := .none },
  { cls := 9, slots := #[.int 93], vm := .none },
  { cls := 9, slots := #[.int 94], vm := .none },
  { cls := 9, slots := #[.int 95], vm := .none },
  { cls := 9, slots := #[.int 96], vm := .none },
  { cls := 9, slots := #[.int 97], vm := .none },
  { cls := 9, slots := #[.int 98], vm := .none },
  { cls := 9, slots := #[.int 99], vm := .none },
  { cls := 9, slots := #[.int 100], vm := .none },
  { cls := 9, slots := #[.int 101], vm := .none },
  { cls := 9, slots := #[.int 102], vm := .none },
  { cls := 9, slots := #[.int 103], vm := .none },
  { cls := 9, slots := #[.int 104], vm := .none },
  { cls := 9, slots := #[.int 105], vm := .none },
  { cls := 9, slots := #[.int 106], vm := .none },
  { cls := 9, slots := #[.int 107], vm := .none },
  { cls := 9, slots := #[.int 108], vm := .none },
  { cls := 9, slots := #[.int 109], vm := .none },
  { cls := 9, slots := #[.int 110], vm := .none },
  { cls := 9, slots := #[.int 111], vm := .none },
  { cls := 9, slots := #[.int 112], vm := .none },
  { cls := 9, slots := #[.int 113], vm := .none },
  { cls := 9, slots := #[.int 114], vm := .none },
  { cls := 9, slots := #[.int 115], vm := .none },
  { cls := 9, slots := #[.int 116], vm := .none },
  { cls := 9, slots := #[.int 117], vm := .none },
  { cls := 9, slots := #[.int 118], vm := .none },
  { cls := 9, slots := #[.int 119], vm := .none },
  { cls := 9, slots := #[.int 120], vm := .none },
  { cls := 9, slots := #[.int 121], vm := .none },
  { cls := 9, slots := #[.int 122], vm := .none },
  { cls := 9, slots := #[.int 123], vm := .none },
  { cls := 9, slots := #[.int 124], vm := .none },
  { cls := 9, slots := #[.int 125], vm := .none },
  { cls := 9, slots := #[.int 126], vm := .none },
  { cls := 9, slots := #[.int 127], vm := .none },
  { cls := 8, slots := #[.long (-128)], vm := .none },
  { cls := 8, slots := #[.long (-127)], vm := .none },
  { cls := 8, slots := #[.long (-126)], vm := .none },
  { cls := 8, slots := #[.long (-125)], vm := .none },
  { cls := 8, slots := #[.long (-124)], vm := .none },
  { cls := 8, slots := #[.long (-123)], vm := .none },
  { cls := 8, slots := #[.long (-122)], vm := .none },
  { cls := 8, slots := #[.long (-121)], vm := .none },
  { cls := 8, slots := #[.long (-120)], vm := .none },
  { cls := 8, slots := #[.long (-119)], vm := .none },
  { cls := 8, slots := #[.long (-118)], vm := .none },
  { cls := 8, slots := #[.long (-117)], vm := .none },
  { cls := 8, slots := #[.long (-116)], vm := .none },
  { cls := 8, slots := #[.long (-115)], vm := .none },
  { cls := 8, slots := #[.long (-114)], vm := .none },
  { cls := 8, slots := #[.long (-113)], vm := .none },
  { cls := 8, slots := #[.long (-112)], vm := .none },
  { cls := 8, slots := #[.long (-111)], vm := .none },
  { cls := 8, slots := #[.long (-110)], vm := .none },
  { cls := 8, slots := #[.long (-109)], vm := .none },
  { cls := 8, slots := #[.long (-108)], vm := .none },
  { cls := 8, slots := #[.long (-107)], vm := .none },
  { cls := 8, slots := #[.long (-106)], vm := .none },
  { cls := 8, slots := #[.long (-105)], vm := .none },
  { cls := 8, slots := #[.long (-104)], vm := .none },
  { cls := 8, slots := #[.long (-103)], vm := .none },
  { cls := 8, slots := #[.long (-102)], vm := .none },
  { cls := 8, slots := #[.long (-101)], vm := .none },
  { cls := 8, slots := #[.long (-100)], vm := .none },
  { cls := 8, slots := #[.long (-99)], vm := .none },
  { cls := 8, slots := #[.long (-98)], vm := .none },
  { cls := 8, slots := #[.long (-97)], vm := .none },
  { cls := 8, slots := #[.long (-96)], vm := .none },
  { cls := 8, slots := #[.long (-95)], vm := .none },
  { cls := 8, slots := #[.long (-94)], vm := .none },
  { cls := 8, slots := #[.long (-93)], vm := .none },
  { cls := 8, slots := #[.long (-92)], vm := .none },
  { cls := 8, slots := #[.long (-91)], vm := .none },
  { cls := 8, slots := #[.long (-90)], vm := .none },
  { cls := 8, slots := #[.long (-89)], vm := .none },
  { cls := 8, slots := #[.long (-88)], vm := .none },
  { cls := 8, slots := #[.long (-87)], vm := .none },
  { cls := 8, slots := #[.long (-86)], vm := .none },
  { cls := 8, slots := #[.long (-85)], vm := .none },
  { cls := 8, slots := #[.long (-84)], vm := .none },
  { cls := 8, slots := #[.long (-83)], vm := .none },
  { cls := 8, slots := #[.long (-82)], vm := .none },
  { cls := 8, slots := #[.long (-81)], vm := .none },
  { cls := 8, slots := #[.long (-80)], vm := .none },
  { cls := 8, slots := #[.long (-79)], vm := .none },
  { cls := 8, slots := #[.long (-78)], vm := .none },
  { cls := 8, slots := #[.long (-77)], vm := .none },
  { cls := 8, slots := #[.long (-76)], vm := .none },
  { cls := 8, slots := #[.long (-75)], vm := .none },
  { cls := 8, slots := #[.long (-74)], vm := .none },
  { cls := 8, slots := #[.long (-73)], vm := .none },
  { cls := 8, slots := #[.long (-72)], vm := .none },
  { cls := 8, slots := #[.long (-71)], vm := .none },
  { cls := 8, slots := #[.long (-70)], vm := .none },
  { cls := 8, slots := #[.long (-69)], vm := .none },
  { cls := 8, slots := #[.long (-68)], vm := .none },
  { cls := 8, slots := #[.long (-67)], vm := .none },
  { cls := 8, slots := #[.long (-66)], vm := .none },
  { cls := 8, slots := #[.long (-65)], vm := .none },
  { cls := 8, slots := #[.long (-64)], vm := .none },
  { cls := 8, slots := #[.long (-63)], vm := .none },
  { cls := 8, slots := #[.long (-62)], vm := .none },
  { cls := 8, slots := #[.long (-61)], vm := .none },
  { cls := 8, slots := #[.long (-60)], vm := .none },
  { cls := 8, slots := #[.long (-59)], vm := .none },
  { cls := 8, slots := #[.long (-58)], vm := .none },
  { cls := 8, slots := #[.long (-57)], vm := .none },
  { cls := 8, slots := #[.long (-56)], vm := .none },
  { cls := 8, slots := #[.long (-55)], vm := .none },
  { cls := 8, slots := #[.long (-54)], vm := .none },
  { cls := 8, slots := #[.long (-53)], vm := .none },
  { cls := 8, slots := #[.long (-52)], vm := .none },
  { cls := 8, slots := #[.long (-51)], vm := .none },
  { cls := 8, slots := #[.long (-50)], vm := .none },
  { cls := 8, slots := #[.long (-49)], vm := .none },
  { cls := 8, slots := #[.long (-48)], vm := .none },
  { cls := 8, slots := #[.long (-47)], vm := .none },
  { cls := 8, slots := #[.long (-46)], vm := .none },
  { cls := 8, slots := #[.long (-45)], vm := .none },
  { cls := 8, slots := #[.long (-44)], vm := .none },
  { cls := 8, slots := #[.long (-43)], vm := .none },
  { cls := 8, slots := #[.long (-42)], vm := .none },
  { cls := 8, slots := #[.long (-41)], vm := .none },
  { cls := 8, slots := #[.long (-40)], vm := .none },
  { cls := 8, slots := #[.long (-39)], vm := .none },
  { cls := 8, slots := #[.long (-38)], vm := .none },
  { cls := 8, slots := #[.long (-37)], vm := .none },
  { cls := 8, slots := #[.long (-36)], vm := .none },
  { cls := 8, slots := #[.long (-35)], vm := .none },
  { cls := 8, slots := #[.long (-34)], vm := .none },
  { cls := 8, slots := #[.long (-33)], vm := .none },
  { cls := 8, slots := #[.long (-32)], vm := .none },
  { cls := 8, slots := #[.long (-31)], vm := .none },
  { cls := 8, slots := #[.long (-30)], vm := .none },
  { cls := 8, slots := #[.long (-29)], vm := .none },
  { cls := 8, slots := #[.long (-28)], vm := .none },
  { cls := 8, slots := #[.long (-27)], vm := .none },
  { cls := 8, slots := #[.long (-26)], vm := .none },
  { cls := 8, slots := #[.long (-25)], vm := .none },
  { cls := 8, slots := #[.long (-24)], vm := .none },
  { cls := 8, slots := #[.long (-23)], vm := .none },
  { cls := 8, slots := #[.long (-22)], vm := .none },
  { cls := 8, slots := #[.long (-21)], vm := .none },
  { cls := 8, slots := #[.long (-20)], vm := .none },
  { cls := 8, slots := #[.long (-19)], vm := .none },
  { cls := 8, slots := #[.long (-18)], vm := .none },
  { cls := 8, slots := #[.long (-17)], vm := .none },
  { cls := 8, slots := #[.long (-16)], vm := .none },
  { cls := 8, slots := #[.long (-15)], vm := .none },
  { cls := 8, slots := #[.long (-14)], vm := .none },
  { cls := 8, slots := #[.long (-13)], vm := .none },
  { cls := 8, slots := #[.long (-12)], vm := .none },
  { cls := 8, slots := #[.long (-11)], vm := .none },
  { cls := 8, slots := #[.long (-10)], vm := .none },
  { cls := 8, slots := #[.long (-9)], vm := .none },
  { cls := 8, slots := #[.long (-8)], vm := .none },
  { cls := 8, slots := #[.long (-7)], vm := .none },
  { cls := 8, slots := #[.long (-6)], vm := .none },
  { cls := 8, slots := #[.long (-5)], vm := .none },
  { cls := 8, slots := #[.long (-4)], vm := .none },
  { cls := 8, slots := #[.long (-3)], vm := .none },
  { cls := 8, slots := #[.long (-2)], vm := .none },
  { cls := 8, slots := #[.long (-1)], vm := .none },
  { cls := 8, slots := #[.long 0], vm := .none },
  { cls := 8, slots := #[.long 1], vm := .none },
  { cls := 8, slots := #[.long 2], vm := .none },
  { cls := 8, slots := #[.long 3], vm := .none },
  { cls := 8, slots := #[.long 4], vm := .none },
  { cls := 8, slots := #[.long 5], vm := .none },
  { cls := 8, slots := #[.long 6], vm := .none },
  { cls := 8, slots := #[.long 7], vm := .none },
  { cls := 8, slots := #[.long 8], vm := .none },
  { cls := 8, slots := #[.long 9], vm := .none },
  { cls := 8, slots := #[.long 10], vm := .none },
  { cls := 8, slots := #[.long 11], vm := .none },
  { cls := 8, slots := #[.long 12], vm := .none },
  { cls := 8, slots := #[.long 13], vm := .none },
  { cls := 8, slots := #[.long 14], vm := .none },
  { cls := 8, slots := #[.long 15], vm := .none },
  { cls := 8, slots := #[.long 16], vm := .none },
  { cls := 8, slots := #[.long 17], vm := .none },
  { cls := 8, slots := #[.long 18], vm := .none },
  { cls := 8, slots := #[.long 19], vm := .none },
  { cls := 8, slots := #[.long 20], vm := .none },
  { cls := 8, slots := #[.long 21], vm := .none },
  { cls := 8, slots := #[.long 22], vm := .none },
  { cls := 8, slots := #[.long 23], vm := .none },
  { cls := 8, slots := #[.long 24], vm := .none },
  { cls := 8, slots := #[.long 25], vm := .none },
  { cls := 8, slots := #[.long 26], vm := .none },
  { cls := 8, slots := #[.long 27], vm := .none },
  { cls := 8, slots := #[.long 28], vm := .none },
  { cls := 8, slots := #[.long 29], vm := .none },
  { cls := 8, slots := #[.long 30], vm := .none },
  { cls := 8, slots := #[.long 31], vm := .none },
  { cls := 8, slots := #[.long 32], vm := .none },
  { cls := 8, slots := #[.long 33], vm := .none },
  { cls := 8, slots := #[.long 34], vm := .none },
  { cls := 8, slots := #[.long 35], vm := .none },
  { cls := 8, slots := #[.long 36], vm := .none },
  { cls := 8, slots := #[.long 37], vm := .none },
  { cls := 8, slots := #[.long 38], vm := .none },
  { cls := 8, slots := #[.long 39], vm := .none },
  { cls := 8, slots := #[.long 40], vm := .none },
  { cls := 8, slots := #[.long 41], vm := .none },
  { cls := 8, slots := #[.long 42], vm := .none },
  { cls := 8, slots := #[.long 43], vm := .none },
  { cls := 8, slots := #[.long 44], vm := .none },
  { cls := 8, slots := #[.long 45], vm := .none },
  { cls := 8, slots := #[.long 46], vm := .none },
  { cls := 8, slots := #[.long 47], vm := .none },
  { cls := 8, slots := #[.long 48], vm := .none },
  { cls := 8, slots := #[.long 49], vm := .none },
  { cls := 8, slots := #[.long 50], vm := .none },
  { cls := 8, slots := #[.long 51], vm := .none },
  { cls := 8, slots := #[.long 52], vm := .none },
  { cls := 8, slots := #[.long 53], vm := .none },
  { cls := 8, slots := #[.long 54], vm := .none },
  { cls := 8, slots := #[.long 55], vm := .none },
  { cls := 8, slots := #[.long 56], vm := .none },
  { cls := 8, slots := #[.long 57], vm := .none },
  { cls := 8, slots := #[.long 58], vm := .none },
  { cls := 8, slots := #[.long 59], vm := .none },
  { cls := 8, slots := #[.long 60], vm := .none },
  { cls := 8, slots := #[.long 61], vm := .none },
  { cls := 8, slots := #[.long 62], vm := .none },
  { cls := 8, slots := #[.long 63], vm := .none },
  { cls := 8, slots := #[.long 64], vm := .none },
  { cls := 8, slots := #[.long 65], vm := .none },
  { cls := 8, slots := #[.long 66], vm := .none },
  { cls := 8, slots := #[.long 67], vm := .none },
  { cls := 8, slots := #[.long 68], vm := .none },
  { cls := 8, slots := #[.long 69], vm := .none },
  { cls := 8, slots := #[.long 70], vm := .none },
  { cls := 8, slots := #[.long 71], vm := .none },
  { cls := 8, slots := #[.long 72], vm := .none },
  { cls := 8, slots := #[.long 73], vm := .none },
  { cls := 8, slots := #[.long 74], vm := .none },
  { cls := 8, slots := #[.long 75], vm := .none },
  { cls := 8, slots := #[.long 76], vm := .none },
  { cls := 8, slots := #[.long 77], vm := .none },
  { cls := 8, slots := #[.long 78], vm := .none },
  { cls := 8, slots := #[.long 79], vm := .none },
  { cls := 8, slots := #[.long 80], vm := .none },
  { cls := 8, slots := #[.long 81], vm := .none },
  { cls := 8, slots := #[.long 82], vm := .none },
  { cls := 8, slots := #[.long 83], vm := .none },
  { cls := 8, slots := #[.long 84], vm := .none },
  { cls := 8, slots := #[.long 85], vm := .none },
  { cls := 8, slots := #[.long 86], vm := .none },
  { cls := 8, slots := #[.long 87], vm := .none },
  { cls := 8, slots := #[.long 88], vm := .none },
  { cls := 8, slots := #[.long 89], vm := .none },
  { cls := 8, slots := #[.long 90], vm := .none },
  { cls := 8, slots := #[.long 91], vm := .none },
  { cls := 8, slots := #[.long 92], vm := .none },
  { cls := 8, slots := #[.long 93], vm := .none },
  { cls := 8, slots := #[.long 94], vm := .none },
  { cls := 8, slots := #[.long 95], vm := .none },
  { cls := 8, slots := #[.long 96], vm := .none },
  { cls := 8, slots := #[.long 97], vm := .none },
  { cls := 8, slots := #[.long 98], vm := .none },
  { cls := 8, slots := #[.long 99], vm := .none },
  { cls := 8, slots := #[.long 100], vm := .none },
  { cls := 8, slots := #[.long 101], vm := .none },
  { cls := 8, slots := #[.long 102], vm := .none },
  { cls := 8, slots := #[.long 103], vm := .none },
  { cls := 8, slots := #[.long 104], vm := .none },
  { cls := 8, slots := #[.long 105], vm := .none },
  { cls := 8, slots := #[.long 106], vm := .none },
  { cls := 8, slots := #[.long 107], vm := .none },
  { cls := 8, slots := #[.long 108], vm := .none },
  { cls := 8, slots := #[.long 109], vm := .none },
  { cls := 8, slots := #[.long 110], vm := .none },
  { cls := 8, slots := #[.long 111], vm := .none },
  { cls := 8, slots := #[.long 112], vm := .none },
  { cls := 8, slots := #[.long 113], vm := .none },
  { cls := 8, slots := #[.long 114], vm := .none },
  { cls := 8, slots := #[.long 115], vm := .none },
  { cls := 8, slots := #[.long 116], vm := .none },
  { cls := 8, slots := #[.long 117], vm := .none },
  { cls := 8, slots := #[.long 118], vm := .none },
  { cls := 8, slots := #[.long 119], vm := .none },
  { cls := 8, slots := #[.long 120], vm := .none },
  { cls := 8, slots := #[.long 121], vm := .none },
  { cls := 8, slots := #[.long 122], vm := .none },
  { cls := 8, slots := #[.long 123], vm := .none },
  { cls := 8, slots := #[.long 124], vm := .none },
  { cls := 8, slots := #[.long 125], vm := .none },
  { cls := 8, slots := #[.long 126], vm := .none },
  { cls := 8, slots := #[.long 127], vm := .none }]
def classes : Array Class := #[k0, k1, k2, k3, k4, k5, k6, k7, k8, k9, k10, k11, k12, k13, k14, k15, k16, k17, k18]
def interned : List (Array UInt16 × Addr) := []
def slotsUsed : Nat := 1032
def theMethod : MethodId := ⟨1, 1⟩
def args0 : Array Value := #[.long 5, .int 7, .long 9, .int 3, .int 0]
def aboutOver (below : List Frame) : State where
  vm := { classes := classes, interned := interned.toArray }
  heap := heap
  slotsUsed := slotsUsed
  threads := #[{ frames := .invoking theMethod args0 :: below }]
def below0 : List Frame := [.native { method := ⟨0, 0⟩, args := #[] }]
def about1 : State := aboutOver below0
def p0 : Program := .bare "" "" ""
def e0 : Env := launch0.env 0 0 0
theorem w_frames : about1.frames = Frame.invoking theMethod args0 :: below0 := rfl
set_option maxRecDepth 65536 in
theorem w_args : argsFit about1.vm theMethod args0 = true := by decide +kernel
set_option maxRecDepth 65536 in
theorem w_heap : heapFits about1 = true := by decide +kernel
set_option maxRecDepth 65536 in
theorem w_runnable : about1.curStatus? = some .runnable := by decide +kernel
set_option maxRecDepth 65536 in
theorem w_alone : about1.alone = true := by decide +kernel
set_option maxRecDepth 65536 in
theorem w_named : about1.methodNamed? x = some theMethod := by decide +kernel
set_option maxRecDepth 65536 in
theorem w_hears : about1.hears theMethod below0 = true := by decide +kernel
set_option maxRecDepth 65536 in
theorem w_ripe : about1.ripe theMethod args0 below0 = true := by decide +kernel
theorem w_running : about1.status = .running := rfl
set_option maxRecDepth 65536 in
theorem w_room : about1.hasRoom e0.platform room_1 = true :=
  launch0.hasRoom_least _ room_1 (by decide +kernel) (by decide +kernel) (by decide +kernel) (by decide +kernel) (by decide +kernel) (by decide +kernel)
theorem allAtoms_all (ts : List Jvm.Cond) (a : Array Jvm.Value) (st : Jvm.State) : (allAtoms ts).before a st = ts.all (fun c => c.before a st) := by
  induction ts with
  | nil => rfl
  | cons c t ih =>
    show (Jvm.Cond.and c (allAtoms t)).before a st = _
    rw [Jvm.Cond.before_and, ih, List.all_cons]
def words1 : List Jvm.Cond := Jvm.Cond.code x code maxLocals ret :: tables_1
/-- a 'code' word, met by the world's own term for the bytes: nothing is compared byte by byte -/
theorem code_word {y : MethodName} {bytes : ByteArray} {mx : Nat} {rt : Option FieldType} {a : Array Value} {s : State} {m : MethodId} {meth : Method} {c : Code} (h1 : s.methodNamed? y = some m) (h2 : s.vm.method? m = some meth) (h3 : meth.code = some c) (h4 : c.code = bytes)
    (h5 : (c.maxLocals == mx && c.exceptionTable.isEmpty && decide (c.maxStack ≤ mostOperands) && decide (meth.sig.returnType = rt) && !meth.locks && decide (parseMethodDescriptor y.desc = some meth.sig)) = true) : (Jvm.Cond.code y bytes mx rt).before a s = true := by
  simp only [Bool.and_eq_true, beq_iff_eq, Bool.not_eq_true', decide_eq_true_eq] at h5
  obtain ⟨⟨⟨⟨⟨g1, g2⟩, g3⟩, g4⟩, g5⟩, g6⟩ := h5
  simp [Cond.before, Cond.holds, Cond.value, h1, h2, h3, h4, g1, g2, g3, g4, g5, g6]
def isCode : Jvm.Cond → Bool
  | .code _ _ _ _ => true
  | _ => false
theorem all_split {L : List Jvm.Cond} {P : Jvm.Cond → Bool} (h1 : L.all (fun c => isCode c || P c) = true) (h2 : ∀ c ∈ L.filter isCode, P c = true) : L.all P = true := by
  refine List.all_eq_true.mpr fun c hc => ?_
  have h := List.all_eq_true.mp h1 c hc
  rcases Bool.eq_false_or_eq_true (isCode c) with hi | hi
  · exact h2 c (List.mem_filter.mpr ⟨hc, hi⟩)
  · simpa [hi] using h
set_option maxRecDepth 65536 in
theorem w_c0 : (Jvm.Cond.code x code maxLocals ret).before args0 about1 = true := code_word (m := ⟨1, 1⟩) (meth := k1m1) (c := k1c1) (by decide +kernel) rfl rfl rfl (by decide +kernel)
set_option maxRecDepth 65536 in
theorem w_c1 : (Jvm.Cond.code ({ cls := "com/example/timed_net_processes/timednetprocesses/Step", name := "<init>", desc := "(JI)V" } : Jvm.MethodName) prog_24_method_1_code (4 : Nat) (Option.none : Option Jvm.ClassFile.FieldType)).before args0 about1 = true := code_word (m := ⟨2, 0⟩) (meth := k2m0) (c := k2c0) (by decide +kernel) rfl rfl rfl (by decide +kernel)
set_option maxRecDepth 65536 in
theorem w_c2 : (Jvm.Cond.code ({ cls := "java/lang/Object", name := "<init>", desc := "()V" } : Jvm.MethodName) object_method_1_code (1 : Nat) (Option.none : Option Jvm.ClassFile.FieldType)).before args0 about1 = true := code_word (m := ⟨0, 0⟩) (meth := k0m0) (c := k0c0) (by decide +kernel) rfl rfl rfl (by decide +kernel)
set_option maxRecDepth 65536 in
theorem w_c3 : (Jvm.Cond.code ({ cls := "com/example/timed_net_processes/timednetprocesses/Step", name := "equals", desc := "(Ljava/lang/Object;)Z" } : Jvm.MethodName) prog_24_method_4_code (3 : Nat) (Option.some Jvm.ClassFile.FieldType.boolean)).before args0 about1 = true := code_word (m := ⟨2, 1⟩) (meth := k2m1) (c := k2c1) (by decide +kernel) rfl rfl rfl (by decide +kernel)
set_option maxRecDepth 65536 in
theorem w_c4 : (Jvm.Cond.code ({ cls := "java/lang/Long", name := "valueOf", desc := "(J)Ljava/lang/Long;" } : Jvm.MethodName) jdk_35_method_24_code (3 : Nat) (Option.some (Jvm.ClassFile.FieldType.object "java/lang/Long"))).before args0 about1 = true := code_word (m := ⟨8, 0⟩) (meth := k8m0) (c := k8c0) (by decide +kernel) rfl rfl rfl (by decide +kernel)
set_option maxRecDepth 65536 in
theorem w_c5 : (Jvm.Cond.code ({ cls := "java/lang/Long", name := "<init>", desc := "(J)V" } : Jvm.MethodName) jdk_35_method_26_code (3 : Nat) (Option.none : Option Jvm.ClassFile.FieldType)).before args0 about1 = true := code_word (m := ⟨8, 1⟩) (meth := k8m1) (c := k8c1) (by decide +kernel) rfl rfl rfl (by decide +kernel)
set_option maxRecDepth 65536 in
theorem w_c6 : (Jvm.Cond.code ({ cls := "java/lang/Number", name := "<init>", desc := "()V" } : Jvm.MethodName) jdk_18_method_1_code (1 : Nat) (Option.none : Option Jvm.ClassFile.FieldType)).before args0 about1 = true := code_word (m := ⟨4, 0⟩) (meth := k4m0) (c := k4c0) (by decide +kernel) rfl rfl rfl (by decide +kernel)
set_option maxRecDepth 65536 in
theorem w_c7 : (Jvm.Cond.code ({ cls := "java/lang/Integer", name := "valueOf", desc := "(I)Ljava/lang/Integer;" } : Jvm.MethodName) jdk_33_method_22_code (1 : Nat) (Option.some (Jvm.ClassFile.FieldType.object "java/lang/Integer"))).before args0 about1 = true := code_word (m := ⟨9, 0⟩) (meth := k9m0) (c := k9c0) (by decide +kernel) rfl rfl rfl (by decide +kernel)
set_option maxRecDepth 65536 in
theorem w_c8 : (Jvm.Cond.code ({ cls := "java/lang/Integer", name := "<init>", desc := "(I)V" } : Jvm.MethodName) jdk_33_method_23_code (2 : Nat) (Option.none : Option Jvm.ClassFile.FieldType)).before args0 about1 = true := code_word (m := ⟨9, 1⟩) (meth := k9m1) (c := k9c1) (by decide +kernel) rfl rfl rfl (by decide +kernel)
def codes1 : List Jvm.Cond := [Jvm.Cond.code x code maxLocals ret, Jvm.Cond.code ({ cls := "com/example/timed_net_processes/timednetprocesses/Step", name := "<init>", desc := "(JI)V" } : Jvm.MethodName) prog_24_method_1_code (4 : Nat) (Option.none : Option Jvm.ClassFile.FieldType), Jvm.Cond.code ({ cls := "java/lang/Object", name := "<init>", desc := "()V" } : Jvm.MethodName) object_method_1_code (1 : Nat) (Option.none : Option Jvm.ClassFile.FieldType), Jvm.Cond.code ({ cls := "com/example/timed_net_processes/timednetprocesses/Step", name := "equals", desc := "(Ljava/lang/Object;)Z" } : Jvm.MethodName) prog_24_method_4_code (3 : Nat) (Option.some Jvm.ClassFile.FieldType.boolean), Jvm.Cond.code ({ cls := "java/lang/Long", name := "valueOf", desc := "(J)Ljava/lang/Long;" } : Jvm.MethodName) jdk_35_method_24_code (3 : Nat) (Option.some (Jvm.ClassFile.FieldType.object "java/lang/Long")), Jvm.Cond.code ({ cls := "java/lang/Long", name := "<init>", desc := "(J)V" } : Jvm.MethodName) jdk_35_method_26_code (3 : Nat) (Option.none : Option Jvm.ClassFile.FieldType), Jvm.Cond.code ({ cls := "java/lang/Number", name := "<init>", desc := "()V" } : Jvm.MethodName) jdk_18_method_1_code (1 : Nat) (Option.none : Option Jvm.ClassFile.FieldType), Jvm.Cond.code ({ cls := "java/lang/Integer", name := "valueOf", desc := "(I)Ljava/lang/Integer;" } : Jvm.MethodName) jdk_33_method_22_code (1 : Nat) (Option.some (Jvm.ClassFile.FieldType.object "java/lang/Integer")), Jvm.Cond.code ({ cls := "java/lang/Integer", name := "<init>", desc := "(I)V" } : Jvm.MethodName) jdk_33_method_23_code (2 : Nat) (Option.none : Option Jvm.ClassFile.FieldType)]
set_option maxRecDepth 65536 in
theorem codes_eq : words1.filter isCode = codes1 := rfl
theorem w_codes : ∀ c ∈ words1.filter isCode, c.before args0 about1 = true := by
  rw [codes_eq]
  intro c hc
  simp only [codes1, List.mem_cons, List.not_mem_nil, or_false] at hc
  rcases hc with rfl | rfl | rfl | rfl | rfl | rfl | rfl | rfl | rfl
  · exact w_c0
  · exact w_c1
  · exact w_c2
  · exact w_c3
  · exact w_c4
  · exact w_c5
  · exact w_c6
  · exact w_c7
  · exact w_c8
set_option maxRecDepth 65536 in
theorem w_t1 : (words1.take 24).all (fun c => isCode c || c.before args0 about1) = true := by decide +kernel
set_option maxRecDepth 65536 in
theorem w_t2 : ((words1.drop 24).take 24).all (fun c => isCode c || c.before args0 about1) = true := by decide +kernel
set_option maxRecDepth 65536 in
theorem w_t3 : ((words1.drop 24).drop 24).all (fun c => isCode c || c.before args0 about1) = true := by decide +kernel
theorem w_tables : (allAtoms (Jvm.Cond.code x code maxLocals ret :: tables_1)).before args0 about1 = true := by
  rw [allAtoms_all]
  show words1.all (fun c => c.before args0 about1) = true
  refine all_split ?_ w_codes
  rw [← List.take_append_drop 24 words1, List.all_append, w_t1, ← List.take_append_drop 24 (words1.drop 24), List.all_append, w_t2, w_t3]
  rfl
set_option maxRecDepth 65536 in
theorem w_rest : rest_1_c.before args0 about1 = true := by decide +kernel
set_option maxRecDepth 65536 in
theorem w_case : (Jvm.Cond.and given_1 narrow_1).before args0 about1 = true := by decide +kernel
theorem w_applies : (headSpec (Jvm.Cond.code x code maxLocals ret :: tables_1) room_1).applies x e0.platform about1 = true :=
  (Spec.applies_iff w_frames).mpr ⟨w_running, w_runnable, w_alone, w_named, w_hears, w_ripe, w_room, w_tables⟩
theorem atStart : AtStart classFile x code maxLocals ret World_1 tables_1 room_1 Calls_1 rest_1 Pre_1 launch0 p0 e0 about1 theMethod args0 below0 :=
  ⟨lists_1, trivial, launch0.admits_env _ _ _, launch0.least_env, fairChoices_fair.cas, fairChoices_fair.clock, w_frames, w_args, w_heap, w_applies, trivial, w_rest, w_case⟩
end start1
theorem witness_1 : WitnessClaimed_1 := ⟨start1.p0, start1.e0, start1.about1, start1.theMethod, start1.args0, start1.below0, start1.atStart⟩
end Jvm.Pilot.@@N@@
