import JvmDerived
import JvmDerived.Pilot.@@N@@Statement
import JvmDerived.Pilot.@@N@@Code
set_option linter.unusedVariables false
set_option linter.unusedSimpArgs false
namespace Jvm.Pilot.@@N@@
open Jvm Jvm.ClassFile Sem Op Lib Jvm.Free Jvm.Stand Jvm.LawKit Jvm.RoadKit Bundle Jvm.Pilot.@@N@@.Jvm.D
/-- from T with the frame fr on top the invocation ends; Q holds of what it returned, of the heap and of the written places; kc cells and ks slots at most are new -/
def own_K : Type := Outcome → State → List Loc → Nat → Nat → Prop
def own_K.plain (s : State) : own_K := fun o t L k n => FrameEnd s o t L k n
def own_K.cold (Z : State) (EL : List (String × Nat)) (s : State) : own_K := fun o t L k n => CHr Z EL s.vm s.heap t.vm t.heap ∧ ReturnedEndW s o t L k n
def Go (p : Program) (e : Env) (below : List Frame) (G : own_K) (kc ks : Nat) (Q : Option Value → Heap → List Loc → Prop) (T : State) (fr : JFrame) : Prop :=
  ∃ s₂ o, Steps p.tables e below (T.setTop fr) s₂ ∧ s₂.status = .running ∧ Ended s₂ below o ∧ ∃ v L, o = .returned v ∧ Q v s₂.heap L ∧ G o s₂ L kc ks
section OwnKit
variable {p : Program} {l : Launch} {e : Env} {R : Room} {s : State} {G : own_K} {m : MethodId} {args : Array Value} {below : List Frame} {meth : Method} {c : Code} {T T' : State} {locs : List Loc} {cells slots : Nat} {Z : State} {a0 : Array Value} {h : Heap} {kc ks : Nat} {Q : Option Value → Heap → List Loc → Prop}
theorem own_st {fr fr' : JFrame} (st : ∀ t, Steps p.tables e below (T'.setTop fr') t → Steps p.tables e below (T.setTop fr) t) (k : Go p e below G kc ks Q T' fr') : Go p e below G kc ks Q T fr := by
  obtain ⟨s₂, o, h1, h2⟩ := k
  exact ⟨s₂, o, st _ h1, h2⟩
theorem own_tr {fr fr' : JFrame} (st : Steps p.tables e below (T.setTop fr) (T'.setTop fr')) (k : Go p e below G kc ks Q T' fr') : Go p e below G kc ks Q T fr :=
  own_st (fun _ q => st.trans q) k
theorem own_met {y : MethodName} {bytes : ByteArray} {maxL : Nat} {ret : Option FieldType} {ws : List Jvm.Cond} {rm : Room} {as' : Array Value} {Ls : Array Slot} {h0 : Heap} (hn : plainFor y = true) (hef : ∀ m : MethodId, entryFrame m as' maxL = mkF m 0 Ls [])
    (body : ∀ (p : Program) (e : Env) (s : State) (m : MethodId) (below : List Frame) (meth : Method) (c : Code) (s₁ : State), p.tables.exec = Jvm.exec → c.code = bytes → c.maxLocals = maxL → meth.sig.returnType = ret → meth.locks = false → Z.Warmed39 s.vm → s.vm.findClass y.cls = some m.cls → meth.name = y.name →
      Stand p l e rm s m as' below meth c s₁ [] 0 0 → s₁.heap = h0 → s.heap = h0 → Go p e below (.plain s) rm.cells rm.slots Q s₁ (mkF m 0 Ls [])) :
    MetFree l y (head1 (Jvm.Cond.code y bytes maxL ret :: ws) rm) (fun a U => a = as' ∧ Z.Warmed39 U.vm ∧ U.heap = h0) (fun _ _ _ _ _ => True) (fun _ U o U' => ∃ v L, o = .returned v ∧ Q v U'.heap L ∧ FrameEnd U o U' L rm.cells rm.slots) := by
  refine MetFree.of_bodySF hn hisR ?_
  intro p e s m args below meth c s₁ Bd hml0 hP hK
  obtain ⟨rfl, hZ, hh⟩ := hP
  have hg := body p e s m below meth c s₁ Bd.exec Bd.bytes hml0 Bd.returns Bd.notSynchronized hZ (findClass_of_methodNamed Bd.named) (name_of_methodNamed Bd.named Bd.method).1 (Stand.of_body Bd) (by rw [← hh, Bd.state]; rfl) hh
  unfold Go at hg
  rw [← hef m] at hg
  exact hg
theorem own_ret (X : Stand p l e R s m args below meth c T locs cells slots) (hx : p.tables.exec = Jvm.exec) (hlk : meth.locks = false) {pc : Nat} {Ls : Array Slot} {w : Value} {t : FieldType} {i : Instr} {rest : List Value} (hret : meth.sig.returnType = some t) (hn : narrow t w = w)
    (hi : (i = .ireturn ∧ (t = .int ∨ t = .boolean ∨ t = .byte ∨ t = .char ∨ t = .short) ∧ ∃ z, w = .int z) ∨ (i = .lreturn ∧ t = .long ∧ ∃ z, w = .long z) ∨ (i = .dreturn ∧ t = .double ∧ ∃ z, w = .double z) ∨ (i = .freturn ∧ t = .float ∧ ∃ z, w = .float z) ∨ (i = .areturn ∧ t.isReference = true ∧ w.isRef = true))
    (hd : decode c.code pc = .ok (i, 1)) (hc : cells ≤ kc) (hs : slots ≤ ks) (hq : Q (some w) T.heap locs) : Go p e below (.plain s) kc ks Q T (mkF m pc Ls (w :: rest)) := by
  obtain ⟨fs, hr, hrun, hended, hW, hsame⟩ := X.leave (v := some w) (fun h => by rw [hret] at h; cases h) hlk
  exact ⟨_, _, retOut X hx hret hn hi hd hr, hrun, hended, _, _, rfl, hq, ⟨_, rfl⟩, hW, hsame.mono hc hs⟩
theorem own_retI (X : Stand p l e R s m args below meth c T locs cells slots) (hx : p.tables.exec = Jvm.exec) (hlk : meth.locks = false) {pc : Nat} {Ls : Array Slot} {z : Int32} {rest : List Value} (hret : meth.sig.returnType = some .int)
    (hd : decode c.code pc = .ok (.ireturn, 1)) (hc : cells ≤ kc) (hs : slots ≤ ks) (hq : Q (some (.int z)) T.heap locs) : Go p e below (.plain s) kc ks Q T (mkF m pc Ls (.int z :: rest)) :=
  own_ret X hx hlk hret rfl (Or.inl ⟨rfl, Or.inl rfl, _, rfl⟩) hd hc hs hq
theorem own_retJ (X : Stand p l e R s m args below meth c T locs cells slots) (hx : p.tables.exec = Jvm.exec) (hlk : meth.locks = false) {pc : Nat} {Ls : Array Slot} {z : Int64} {rest : List Value} (hret : meth.sig.returnType = some .long)
    (hd : decode c.code pc = .ok (.lreturn, 1)) (hc : cells ≤ kc) (hs : slots ≤ ks) (hq : Q (some (.long z)) T.heap locs) : Go p e below (.plain s) kc ks Q T (mkF m pc Ls (.long z :: rest)) :=
  own_ret X hx hlk hret rfl (Or.inr (Or.inl ⟨rfl, rfl, _, rfl⟩)) hd hc hs hq
theorem own_retA (X : Stand p l e R s m args below meth c T locs cells slots) (hx : p.tables.exec = Jvm.exec) (hlk : meth.locks = false) {pc : Nat} {Ls : Array Slot} {w : Value} {t : FieldType} {rest : List Value} (hret : meth.sig.returnType = some t) (ht : t.isReference = true) (hw : w.isRef = true)
    (hd : decode c.code pc = .ok (.areturn, 1)) (hc : cells ≤ kc) (hs : slots ≤ ks) (hq : Q (some w) T.heap locs) : Go p e below (.plain s) kc ks Q T (mkF m pc Ls (w :: rest)) :=
  own_ret X hx hlk hret (by cases w <;> simp [Value.isRef] at hw <;> cases t <;> simp [FieldType.isReference] at ht <;> rfl) (Or.inr (Or.inr (Or.inr (Or.inr ⟨rfl, ht, hw⟩)))) hd hc hs hq
theorem own_retV (X : Stand p l e R s m args below meth c T locs cells slots) (hx : p.tables.exec = Jvm.exec) (hlk : meth.locks = false) {pc : Nat} {Ls : Array Slot} (hret : meth.sig.returnType = none)
    (hd : decode c.code pc = .ok (.return_, 1)) (hc : cells ≤ kc) (hs : slots ≤ ks) (hq : Q none T.heap locs) : Go p e below (.plain s) kc ks Q T (mkF m pc Ls []) := by
  obtain ⟨fs, hr, hrun, hended, hW, hsame⟩ := X.leave (v := none) (fun _ => rfl) hlk
  exact ⟨_, _, X.returnOut hx hret hd hr, hrun, hended, _, _, rfl, hq, ⟨_, rfl⟩, hW, hsame.mono hc hs⟩
theorem own_bit {z : Int32} (h : z.toInt = 0 ∨ z.toInt = 1) : z = 0 ∨ z = 1 := by
  rcases h with h | h
  · exact Or.inl (Int32.toInt_inj.mp h)
  · exact Or.inr (Int32.toInt_inj.mp h)
theorem own_retZ (X : Stand p l e R s m args below meth c T locs cells slots) (hx : p.tables.exec = Jvm.exec) (hlk : meth.locks = false) {pc : Nat} {Ls : Array Slot} {z : Int32} {rest : List Value} (hret : meth.sig.returnType = some .boolean) (hz : z.toInt = 0 ∨ z.toInt = 1)
    (hd : decode c.code pc = .ok (.ireturn, 1)) (hc : cells ≤ kc) (hs : slots ≤ ks) (hq : Q (some (.int z)) T.heap locs) : Go p e below (.plain s) kc ks Q T (mkF m pc Ls (.int z :: rest)) :=
  own_ret X hx hlk hret (by rcases own_bit hz with rfl | rfl <;> rfl) (Or.inl ⟨rfl, Or.inr (Or.inl rfl), _, rfl⟩) hd hc hs hq
theorem own_one {z : Int32} (h : z.toInt = 1) : z = 1 := Int32.toInt_inj.mp h
/-- a static call by the callee's contract -/
theorem own_callS (X : Stand p l e R s m args below meth c T locs cells slots) (hx : p.tables.exec = Jvm.exec) (hZ : Z.Warmed39 s.vm) {own : String} {index : Nat} {y : MethodName} {bytes : ByteArray} {maxL : Nat} {ret : Option FieldType} (hown : s.vm.findClass own = some m.cls)
    (w1 : (Jvm.Cond.methodLink own index y).before a0 Z = true) (w2 : (Jvm.Cond.static y).before a0 Z = true) (w3 : (Jvm.Cond.initialized y.cls).before a0 Z = true) (w4 : (Jvm.Cond.code y bytes maxL ret).before a0 Z = true) (hy : y.cls ≠ "java/lang/invoke/MethodHandle" ∧ y.cls ≠ "java/lang/invoke/VarHandle")
    {rm : Room} {Q' : Option Value → Heap → List Loc → Prop} {argsL rest stk : List Value} {pc W : Nat} {Ls : Array Slot}
    (hM : MetFree l y (head1 [Jvm.Cond.code y bytes maxL ret] rm) (fun a U => a = argsL.toArray ∧ Z.Warmed39 U.vm ∧ U.heap = h) (fun _ _ _ _ _ => True) (fun _ U o U' => ∃ v L, o = .returned v ∧ Q' v U'.heap L ∧ FrameEnd U o U' L rm.cells rm.slots))
    (eT : T.heap = h) (hsize : Ls.size = c.maxLocals) (hlen : ∀ sig, parseMethodDescriptor y.desc = some sig → argsL.length = sig.parameters.length) (hst : stk = argsL.reverse ++ rest) (hW : (rest.map fun v => v.category).sum ≤ W) (hd : decode c.code pc = .ok (.invokestatic index, 3))
    (hf : rm.frames + 1 ≤ R.frames) (hl : W + (maxL + 11) + rm.locals ≤ R.locals) (hc : cells + rm.cells ≤ R.cells) (hs : slots + rm.slots ≤ R.slots)
    (k : ∀ (v : Option Value) (T' : State) (L : List Loc), Stand p l e R s m args below meth c T' (locs ++ L) (cells + rm.cells) (slots + rm.slots) → Q' v T'.heap L → Go p e below G kc ks Q T' (mkF m (pc + 3) Ls (v.toList ++ rest))) :
    Go p e below G kc ks Q T (mkF m pc Ls stk) := by
  subst hst
  obtain ⟨v, _, ⟨T1, L1, k1, n1⟩, -, X1, ⟨Lc, hQ, l1, y1, z1⟩, st⟩ := Jvm.LawKit.callS X hx (y := y) hown (mvT hZ w1) (mvT hZ w2) (mvT hZ w3) (mvT hZ w4) hy (backOf (W := W) hM hZ w4 w3 hf hl) (g := mkF m pc Ls (argsL.reverse ++ rest)) rfl hsize (argsL := argsL) (rest := rest) hlen rfl (by show 2 * 0 + _ ≤ _; omega) hd (fun _ _ => ⟨rfl, eT, hc, hs⟩)
  dsimp only [Pt.U, Pt.locs, Pt.cells, Pt.slots] at X1 l1 y1 z1 st hQ
  subst l1 y1 z1
  exact own_st st (k v T1 Lc X1 hQ)
/-- a constructor by its contract -/
theorem own_callN (X : Stand p l e R s m args below meth c T locs cells slots) (hx : p.tables.exec = Jvm.exec) (hZ : Z.Warmed39 s.vm) {own : String} {index : Nat} {y : MethodName} {bytes : ByteArray} {maxL : Nat} (hown : s.vm.findClass own = some m.cls) (hy1 : y.name = "<init>")
    (w1 : (Jvm.Cond.methodLink own index y).before a0 Z = true) (w2 : (Jvm.Cond.instanceMethod y).before a0 Z = true) (w3 : (Jvm.Cond.initialized y.cls).before a0 Z = true) (w4 : (Jvm.Cond.code y bytes maxL none).before a0 Z = true) (hy : y.cls ≠ "java/lang/invoke/MethodHandle" ∧ y.cls ≠ "java/lang/invoke/VarHandle")
    {rm : Room} {Q' : Option Value → Heap → List Loc → Prop} {a : Addr} {argsL rest stk : List Value} {pc W : Nat} {Ls : Array Slot}
    (hM : MetFree l y (head1 [Jvm.Cond.code y bytes maxL none] rm) (fun a' U => a' = (.ref a :: argsL).toArray ∧ Z.Warmed39 U.vm ∧ U.heap = h) (fun _ _ _ _ _ => True) (fun _ U o U' => ∃ v L, o = .returned v ∧ Q' v U'.heap L ∧ FrameEnd U o U' L rm.cells rm.slots))
    (eT : T.heap = h) (hsize : Ls.size = c.maxLocals) (hlen : ∀ sig, parseMethodDescriptor y.desc = some sig → argsL.length = sig.parameters.length) (hst : stk = argsL.reverse ++ .ref a :: rest) (hW : (rest.map fun v => v.category).sum ≤ W) (hd : decode c.code pc = .ok (.invokespecial index, 3))
    (hf : rm.frames + 1 ≤ R.frames) (hl : W + (maxL + 11) + rm.locals ≤ R.locals) (hc : cells + rm.cells ≤ R.cells) (hs : slots + rm.slots ≤ R.slots)
    (k : ∀ (v : Option Value) (T' : State) (L : List Loc), Stand p l e R s m args below meth c T' (locs ++ L) (cells + rm.cells) (slots + rm.slots) → Q' v T'.heap L → Go p e below G kc ks Q T' (mkF m (pc + 3) Ls (v.toList ++ rest))) :
    Go p e below G kc ks Q T (mkF m pc Ls stk) := by
  subst hst
  obtain ⟨v, _, ⟨T1, L1, k1, n1⟩, -, X1, ⟨Lc, hQ, l1, y1, z1⟩, st⟩ := X.specialBack hx (y := y) hy1 hown (mvT hZ w1) (mvT hZ w2) (mvT hZ w4) hy (backOf (W := W) hM hZ w4 w3 hf hl) (g := mkF m pc Ls (argsL.reverse ++ .ref a :: rest)) rfl hsize (Steps.refl _) (a := a) (argsL := argsL) (rest := rest) hlen rfl (by show 2 * 0 + _ ≤ _; omega) hd (fun _ _ => ⟨rfl, eT, hc, hs⟩)
  dsimp only [Pt.U, Pt.locs, Pt.cells, Pt.slots] at X1 l1 y1 z1 st hQ
  subst l1 y1 z1
  exact own_tr st (k v T1 Lc X1 hQ)
/-- an instance method by the contract of the body that the receiver's class selects -/
theorem own_callV (X : Stand p l e R s m args below meth c T locs cells slots) (hx : p.tables.exec = Jvm.exec) (hZ : Z.Warmed39 s.vm) {own C : String} {index : Nat} {y z : MethodName} {bytes : ByteArray} {maxL : Nat} {ret : Option FieldType} (hown : s.vm.findClass own = some m.cls)
    (w1 : (Jvm.Cond.methodLink own index y).before a0 Z = true) (w2 : (Jvm.Cond.declares y).before a0 Z = true) (hnf : NotFace s y) (w3 : (Jvm.Cond.selects C y z).before a0 Z = true) (w4 : (Jvm.Cond.instanceMethod z).before a0 Z = true) (w5 : (Jvm.Cond.initialized z.cls).before a0 Z = true) (w6 : (Jvm.Cond.code z bytes maxL ret).before a0 Z = true) (hy : y.cls ≠ "java/lang/invoke/MethodHandle" ∧ y.cls ≠ "java/lang/invoke/VarHandle")
    {rm : Room} {Q' : Option Value → Heap → List Loc → Prop} {a : Addr} {argsL rest stk : List Value} {pc W : Nat} {Ls : Array Slot}
    (hM : MetFree l z (head1 [Jvm.Cond.code z bytes maxL ret] rm) (fun a' U => a' = (.ref a :: argsL).toArray ∧ Z.Warmed39 U.vm ∧ U.heap = h) (fun _ _ _ _ _ => True) (fun _ U o U' => ∃ v L, o = .returned v ∧ Q' v U'.heap L ∧ FrameEnd U o U' L rm.cells rm.slots))
    (eT : T.heap = h) (E : Exa Z h a C) (hsize : Ls.size = c.maxLocals) (hlen : ∀ sig, parseMethodDescriptor y.desc = some sig → argsL.length = sig.parameters.length) (hst : stk = argsL.reverse ++ .ref a :: rest) (hW : (rest.map fun v => v.category).sum ≤ W) (hd : decode c.code pc = .ok (.invokevirtual index, 3))
    (hf : rm.frames + 1 ≤ R.frames) (hl : W + (maxL + 11) + rm.locals ≤ R.locals) (hc : cells + rm.cells ≤ R.cells) (hs : slots + rm.slots ≤ R.slots)
    (k : ∀ (v : Option Value) (T' : State) (L : List Loc), Stand p l e R s m args below meth c T' (locs ++ L) (cells + rm.cells) (slots + rm.slots) → Q' v T'.heap L → Go p e below G kc ks Q T' (mkF m (pc + 3) Ls (v.toList ++ rest))) :
    Go p e below G kc ks Q T (mkF m pc Ls stk) := by
  subst hst
  obtain ⟨cq, kq, qa, qb, qc⟩ := isOf hZ eT E
  obtain ⟨v, _, ⟨T1, L1, k1, n1⟩, -, X1, ⟨Lc, hQ, l1, y1, z1⟩, st⟩ := X.virtualBack hx (y := y) (z := z) hown (mvT hZ w1) (mvT hZ w2) hnf (mvT hZ w3) (mvT hZ w4) hy (backOf (W := W) hM hZ w6 w5 hf hl) qa qc (g := mkF m pc Ls (argsL.reverse ++ .ref a :: rest)) rfl hsize (Steps.refl _) (argsL := argsL) (rest := rest) hlen rfl (by show 2 * 0 + _ ≤ _; omega) hd (fun _ _ => ⟨rfl, eT, hc, hs⟩)
  dsimp only [Pt.U, Pt.locs, Pt.cells, Pt.slots] at X1 l1 y1 z1 st hQ
  subst l1 y1 z1
  exact own_tr st (k v T1 Lc X1 hQ)
/-- the branches, by the integers' worth -/
theorem own_tlt {x y : Int32} (h : x.toInt < y.toInt) : if_icmp.holds .lt x y = true ∧ if_icmp.holds .ge x y = false ∧ if_icmp.holds .gt y x = true ∧ if_icmp.holds .le y x = false := tlt (Int32.lt_iff_toInt_lt.mpr h)
theorem own_flt {x y : Int32} (h : ¬ x.toInt < y.toInt) : if_icmp.holds .lt x y = false ∧ if_icmp.holds .ge x y = true ∧ if_icmp.holds .gt y x = false ∧ if_icmp.holds .le y x = true := flt fun q => h (Int32.lt_iff_toInt_lt.mp q)
theorem own_teq {x y : Int32} (h : x.toInt = y.toInt) : if_icmp.holds .eq x y = true ∧ if_icmp.holds .ne x y = false := teq (Int32.toInt_inj.mp h)
theorem own_feq {x y : Int32} (h : ¬ x.toInt = y.toInt) : if_icmp.holds .eq x y = false ∧ if_icmp.holds .ne x y = true := feq fun q => h (congrArg _ q)
theorem own_tltL {x y : Int64} (h : x.toInt < y.toInt) : ifCond.holds .lt (lcmpW x y) = true ∧ ifCond.holds .ge (lcmpW x y) = false := by
  have q := tlt ((lw_lt x y).mpr (Int64.lt_iff_toInt_lt.mpr h))
  exact ⟨(if0 _ _).trans q.1, (if0 _ _).trans q.2.1⟩
theorem own_fltL {x y : Int64} (h : ¬ x.toInt < y.toInt) : ifCond.holds .lt (lcmpW x y) = false ∧ ifCond.holds .ge (lcmpW x y) = true := by
  have q := flt fun r => h (Int64.lt_iff_toInt_lt.mp ((lw_lt x y).mp r))
  exact ⟨(if0 _ _).trans q.1, (if0 _ _).trans q.2.1⟩
theorem own_tgtL {x y : Int64} (h : y.toInt < x.toInt) : ifCond.holds .gt (lcmpW x y) = true ∧ ifCond.holds .le (lcmpW x y) = false := by
  have q := tlt ((lw_gt x y).mpr (Int64.lt_iff_toInt_lt.mpr h))
  exact ⟨(if0 _ _).trans q.2.2.1, (if0 _ _).trans q.2.2.2⟩
theorem own_fgtL {x y : Int64} (h : ¬ y.toInt < x.toInt) : ifCond.holds .gt (lcmpW x y) = false ∧ ifCond.holds .le (lcmpW x y) = true := by
  have q := flt fun r => h (Int64.lt_iff_toInt_lt.mp ((lw_gt x y).mp r))
  exact ⟨(if0 _ _).trans q.2.2.1, (if0 _ _).trans q.2.2.2⟩
theorem own_teqL {x y : Int64} (h : x.toInt = y.toInt) : ifCond.holds .eq (lcmpW x y) = true ∧ ifCond.holds .ne (lcmpW x y) = false := by
  have q := teq ((lw_eq x y).mpr (Int64.toInt_inj.mp h))
  exact ⟨(if0 _ _).trans q.1, (if0 _ _).trans q.2⟩
theorem own_feqL {x y : Int64} (h : ¬ x.toInt = y.toInt) : ifCond.holds .eq (lcmpW x y) = false ∧ ifCond.holds .ne (lcmpW x y) = true := by
  have q := feq fun r => h (congrArg _ ((lw_eq x y).mp r))
  exact ⟨(if0 _ _).trans q.1, (if0 _ _).trans q.2⟩
/-- an array by its length and what each place holds -/
def own_A (Z : State) (h : Heap) (a : Addr) (ty : FieldType) (n : Int32) (f : Nat → Value) : Prop := ∃ cl : Cell, Arr Z h a cl ty ∧ cl.slots.size = n.toNatClampNeg ∧ 0 ≤ n.toInt ∧ (∀ i, i < cl.slots.size → cl.slots[i]? = some (f i)) ∧ ∀ i, i < cl.slots.size → fits ty (f i) = true
theorem own_cl {n : Int32} : n.toNatClampNeg = n.toInt.toNat := rfl
theorem own_nneg {n : Int32} (h : 0 ≤ n.toInt) : ¬ n < 0 := fun q => by
  have q := Int32.lt_iff_toInt_lt.mp q
  have : (0 : Int32).toInt = 0 := rfl
  omega
theorem own_in {cl : Cell} {n j : Int32} (hs : cl.slots.size = n.toNatClampNeg) (h0 : 0 ≤ j.toInt) (h1 : j.toInt < n.toInt) : ¬ (j < 0 ∨ cl.slots.size ≤ j.toNatClampNeg) := by
  rintro (q | q)
  · exact own_nneg h0 q
  · rw [hs, own_cl, own_cl] at q; omega
theorem own_ilt {cl : Cell} {n j : Int32} (hs : cl.slots.size = n.toNatClampNeg) (h0 : 0 ≤ j.toInt) (h1 : j.toInt < n.toInt) : j.toInt.toNat < cl.slots.size := by rw [hs, own_cl]; omega
section OwnArr
variable {h h' : Heap} {a b : Addr} {ty : FieldType} {n : Int32} {f g : Nat → Value} {sl : Nat} {v : Value} {ws : List Addr}
theorem own_A.lt (F : own_A Z h a ty n f) : a < h.size := by obtain ⟨c, A, -⟩ := F; exact A.lt
theorem own_A.ext (F : own_A Z h a ty n f) (E : Ext h h') : own_A Z h' a ty n f := by obtain ⟨c, A, r⟩ := F; exact ⟨c, A.ext E, r⟩
theorem own_A.other (F : own_A Z h b ty n f) (W : Wr h h' a sl v) (q : b ≠ a) : own_A Z h' b ty n f := by obtain ⟨c, A, r⟩ := F; exact ⟨c, A.other W q, r⟩
theorem own_A.keep (F : own_A Z h a ty n f) (K : Keep h h' ws) (q : a ∉ ws) : own_A Z h' a ty n f := by obtain ⟨c, A, r⟩ := F; exact ⟨c, ⟨K.2.1 a c A.1 q, A.2⟩, r⟩
theorem own_A.congr (F : own_A Z h a ty n f) (q : ∀ i : Nat, (i : Int) < n.toInt → f i = g i) : own_A Z h a ty n g := by
  obtain ⟨c, A, hs, h0, H, G⟩ := F
  have t : ∀ i, i < c.slots.size → f i = g i := fun i hi => q i (by rw [hs, own_cl] at hi; omega)
  exact ⟨c, A, hs, h0, fun i hi => by rw [← t i hi]; exact H i hi, fun i hi => by rw [← t i hi]; exact G i hi⟩
theorem own_A.new {k : ClassId} (A : Arr Z h a (newA k ty n) ty) (q : 0 ≤ n.toInt) (hd : fits ty (defaultValue ty) = true) : own_A Z h a ty n (fun _ => defaultValue ty) :=
  ⟨_, A, sz_new _ _ _, q, fun i hi => by
    rw [sz_new] at hi
    simp [newA, hi], fun _ _ => hd⟩
theorem own_A.setN {cl : Cell} (A : Arr Z h a cl ty) (hs : cl.slots.size = n.toNatClampNeg) (h0 : 0 ≤ n.toInt) (H : ∀ i, i < cl.slots.size → cl.slots[i]? = some (f i)) (G : ∀ i, i < cl.slots.size → fits ty (f i) = true) (hv : fits ty v = true) {j : Nat} (W : Wr h h' a j v) (hj : j < cl.slots.size) :
    own_A Z h' a ty n (fun i => if i = j then v else f i) := by
  refine ⟨_, A.same W, by rw [sz_set]; exact hs, h0, fun i hi => ?_, fun i hi => ?_⟩
  · rw [sz_set] at hi
    by_cases e : i = j
    · subst e; simp [Cell.setSlot, hj]
    · have : j ≠ i := fun q => e q.symm
      simp [Cell.setSlot, e, this, H i hi]
  · rw [sz_set] at hi
    by_cases e : i = j
    · simp [e, hv]
    · simp [e, G i hi]
theorem own_A.set {cl : Cell} (A : Arr Z h a cl ty) (hs : cl.slots.size = n.toNatClampNeg) (h0 : 0 ≤ n.toInt) (H : ∀ i, i < cl.slots.size → cl.slots[i]? = some (f i)) (G : ∀ i, i < cl.slots.size → fits ty (f i) = true) (hv : fits ty v = true) {j : Int32} (W : Wr h h' a j.toNatClampNeg v) (hj : j.toInt.toNat < cl.slots.size) :
    own_A Z h' a ty n (fun i => if i = j.toInt.toNat then v else f i) := own_A.setN A hs h0 H G hv (j := j.toInt.toNat) W hj
end OwnArr
theorem own_A.int {h : Heap} {a : Addr} {n j : Int32} {f : Nat → Value} (F : own_A Z h a .int n f) (h0 : 0 ≤ j.toInt) (h1 : j.toInt < n.toInt) : ∃ z : Int32, f j.toInt.toNat = .int z := by
  obtain ⟨c, A, hs, hn, H, G⟩ := F
  exact fit_I (G _ (own_ilt hs h0 h1)) (Or.inl rfl)
theorem own_newarr (X : Stand p l e R s m args below meth c T locs cells slots) (hx : p.tables.exec = Jvm.exec) (hZ : Z.Warmed39 s.vm) {aty : ArrayType} (w : (Jvm.Cond.arrayClass (newarray.typeOf aty)).before a0 Z = true) (eT : T.heap = h) {pc : Nat} {Ls : Array Slot} (hd : decode c.code pc = .ok (.newarray aty, 2)) {n : Int32} {rest : List Value}
    (hn : 0 ≤ n.toInt) {cap : Nat} (hcap : n.toInt ≤ cap) (hb : cap * 8 ≤ 536870912) (hc : cells + 1 ≤ R.cells) (hl : slots + cap ≤ R.slots) (hf : fits (newarray.typeOf aty) (defaultValue (newarray.typeOf aty)) = true)
    (k : ∀ (T' : State) (h' : Heap) (a : Addr), a = h.size → Stand p l e R s m args below meth c T' locs (cells + 1) (slots + cap) → T'.heap = h' → Ext h h' → own_A Z h' a (newarray.typeOf aty) n (fun _ => defaultValue (newarray.typeOf aty)) → Go p e below G kc ks Q T' (mkF m (pc + 2) Ls (.ref a :: rest))) :
    Go p e below G kc ks Q T (mkF m pc Ls (.int n :: rest)) := by
  obtain ⟨T', h', cA, X', e', E', A', st⟩ := newP X hx hZ w eT (g := mkF m pc Ls (.int n :: rest)) rfl hd rfl (own_nneg hn) (cap := cap) (by rw [own_cl]; omega) hb hc hl
  exact own_st st (k T' h' _ rfl X' e' E' (own_A.new A' hn hf))
theorem own_alen (X : Stand p l e R s m args below meth c T locs cells slots) (hx : p.tables.exec = Jvm.exec) (hZ : Z.Warmed39 s.vm) (eT : T.heap = h) {a : Addr} {ty : FieldType} {n : Int32} {f : Nat → Value} (A : own_A Z h a ty n f) {pc : Nat} {Ls : Array Slot} {rest : List Value} (hd : decode c.code pc = .ok (.arraylength, 1))
    (k : Go p e below G kc ks Q T (mkF m (pc + 1) Ls (.int n :: rest))) : Go p e below G kc ks Q T (mkF m pc Ls (.ref a :: rest)) := by
  obtain ⟨cl, Ar, hs, h0, -, -⟩ := A
  rw [← len_of hs (own_nneg h0)] at k
  exact own_st (fun t q => X.arraylength hx (by rw [eT]; exact Ar.1) (State.isArrayOf_alike hZ.alike Ar.2.1) (g := mkF m pc Ls (.ref a :: rest)) rfl rfl hd t q) k
theorem own_iaload (X : Stand p l e R s m args below meth c T locs cells slots) (hx : p.tables.exec = Jvm.exec) (hZ : Z.Warmed39 s.vm) (eT : T.heap = h) {a : Addr} {n j : Int32} {f : Nat → Value} {v : Value} (A : own_A Z h a .int n f) (h0 : 0 ≤ j.toInt) (h1 : j.toInt < n.toInt) (hv : f j.toInt.toNat = v) {pc : Nat} {Ls : Array Slot} {rest : List Value} (hd : decode c.code pc = .ok (.iaload, 1))
    (k : Go p e below G kc ks Q T (mkF m (pc + 1) Ls (v :: rest))) : Go p e below G kc ks Q T (mkF m pc Ls (.int j :: .ref a :: rest)) := by
  obtain ⟨cl, Ar, hs, hn, H, -⟩ := A
  exact own_st (fun t q => X.iaload hx (j := j) (v := v) (by rw [eT]; exact Ar.1) (State.isArrayOf_alike hZ.alike Ar.2.1) Ar.2.2 (own_in hs h0 h1) (hv ▸ H _ (own_ilt hs h0 h1)) (g := mkF m pc Ls (.int j :: .ref a :: rest)) rfl rfl hd t q) k
theorem own_laload (X : Stand p l e R s m args below meth c T locs cells slots) (hx : p.tables.exec = Jvm.exec) (hZ : Z.Warmed39 s.vm) (eT : T.heap = h) {a : Addr} {n j : Int32} {f : Nat → Value} {v : Value} (A : own_A Z h a .long n f) (h0 : 0 ≤ j.toInt) (h1 : j.toInt < n.toInt) (hv : f j.toInt.toNat = v) {pc : Nat} {Ls : Array Slot} {rest : List Value} (hd : decode c.code pc = .ok (.laload, 1))
    (k : Go p e below G kc ks Q T (mkF m (pc + 1) Ls (v :: rest))) : Go p e below G kc ks Q T (mkF m pc Ls (.int j :: .ref a :: rest)) := by
  obtain ⟨cl, Ar, hs, hn, H, -⟩ := A
  exact own_st (fun t q => X.laload hx (j := j) (v := v) (by rw [eT]; exact Ar.1) (State.isArrayOf_alike hZ.alike Ar.2.1) Ar.2.2 (own_in hs h0 h1) (hv ▸ H _ (own_ilt hs h0 h1)) (g := mkF m pc Ls (.int j :: .ref a :: rest)) rfl rfl hd t q) k
theorem own_caload (X : Stand p l e R s m args below meth c T locs cells slots) (hx : p.tables.exec = Jvm.exec) (hZ : Z.Warmed39 s.vm) (eT : T.heap = h) {a : Addr} {n j : Int32} {f : Nat → Value} {v : Value} (A : own_A Z h a .char n f) (h0 : 0 ≤ j.toInt) (h1 : j.toInt < n.toInt) (hv : f j.toInt.toNat = v) {pc : Nat} {Ls : Array Slot} {rest : List Value} (hd : decode c.code pc = .ok (.caload, 1))
    (k : Go p e below G kc ks Q T (mkF m (pc + 1) Ls (v :: rest))) : Go p e below G kc ks Q T (mkF m pc Ls (.int j :: .ref a :: rest)) := by
  obtain ⟨cl, Ar, hs, hn, H, -⟩ := A
  exact own_st (fun t q => X.caload hx (j := j) (v := v) (by rw [eT]; exact Ar.1) (State.isArrayOf_alike hZ.alike Ar.2.1) Ar.2.2 (own_in hs h0 h1) (hv ▸ H _ (own_ilt hs h0 h1)) (g := mkF m pc Ls (.int j :: .ref a :: rest)) rfl rfl hd t q) k
theorem own_baload (X : Stand p l e R s m args below meth c T locs cells slots) (hx : p.tables.exec = Jvm.exec) (hZ : Z.Warmed39 s.vm) (eT : T.heap = h) {a : Addr} {n j : Int32} {f : Nat → Value} {v : Value} (A : own_A Z h a .byte n f) (h0 : 0 ≤ j.toInt) (h1 : j.toInt < n.toInt) (hv : f j.toInt.toNat = v) {pc : Nat} {Ls : Array Slot} {rest : List Value} (hd : decode c.code pc = .ok (.baload, 1))
    (k : Go p e below G kc ks Q T (mkF m (pc + 1) Ls (v :: rest))) : Go p e below G kc ks Q T (mkF m pc Ls (.int j :: .ref a :: rest)) := by
  obtain ⟨cl, Ar, hs, hn, H, -⟩ := A
  exact own_st (fun t q => X.baloadBytes hx (j := j) (v := v) (by rw [eT]; exact Ar.1) (State.isArrayOf_alike hZ.alike Ar.2.1) Ar.2.2 (own_in hs h0 h1) (hv ▸ H _ (own_ilt hs h0 h1)) (g := mkF m pc Ls (.int j :: .ref a :: rest)) rfl rfl hd t q) k
theorem own_zaload (X : Stand p l e R s m args below meth c T locs cells slots) (hx : p.tables.exec = Jvm.exec) (hZ : Z.Warmed39 s.vm) (eT : T.heap = h) {a : Addr} {n j : Int32} {f : Nat → Value} {v : Value} (A : own_A Z h a .boolean n f) (h0 : 0 ≤ j.toInt) (h1 : j.toInt < n.toInt) (hv : f j.toInt.toNat = v) {pc : Nat} {Ls : Array Slot} {rest : List Value} (hd : decode c.code pc = .ok (.baload, 1))
    (k : Go p e below G kc ks Q T (mkF m (pc + 1) Ls (v :: rest))) : Go p e below G kc ks Q T (mkF m pc Ls (.int j :: .ref a :: rest)) := by
  obtain ⟨cl, Ar, hs, hn, H, -⟩ := A
  exact own_st (fun t q => X.baloadBooleans hx (j := j) (v := v) (by rw [eT]; exact Ar.1) (State.isArrayOf_alike hZ.alike Ar.2.1) Ar.2.2 (own_in hs h0 h1) (hv ▸ H _ (own_ilt hs h0 h1)) (g := mkF m pc Ls (.int j :: .ref a :: rest)) rfl rfl hd t q) k
theorem own_aaload (X : Stand p l e R s m args below meth c T locs cells slots) (hx : p.tables.exec = Jvm.exec) (hZ : Z.Warmed39 s.vm) (eT : T.heap = h) {a : Addr} {ty : FieldType} {n j : Int32} {f : Nat → Value} {v : Value} (A : own_A Z h a ty n f) (hty : ty.isReference = true) (h0 : 0 ≤ j.toInt) (h1 : j.toInt < n.toInt) (hv : f j.toInt.toNat = v) {pc : Nat} {Ls : Array Slot} {rest : List Value} (hd : decode c.code pc = .ok (.aaload, 1))
    (k : Go p e below G kc ks Q T (mkF m (pc + 1) Ls (v :: rest))) : Go p e below G kc ks Q T (mkF m pc Ls (.int j :: .ref a :: rest)) := by
  obtain ⟨cl, Ar, hs, hn, H, -⟩ := A
  exact own_st (fun t q => X.aaload hx (j := j) (v := v) (by rw [eT]; exact Ar.1) (State.isArrayOf_alike hZ.alike Ar.2.1) hty Ar.2.2 (own_in hs h0 h1) (hv ▸ H _ (own_ilt hs h0 h1)) (g := mkF m pc Ls (.int j :: .ref a :: rest)) rfl rfl hd t q) k
theorem own_iastore (X : Stand p l e R s m args below meth c T locs cells slots) (hx : p.tables.exec = Jvm.exec) (hZ : Z.Warmed39 s.vm) (eT : T.heap = h) {a : Addr} {n j : Int32} {f : Nat → Value} {x : Int32} (A : own_A Z h a .int n f) (h0 : 0 ≤ j.toInt) (h1 : j.toInt < n.toInt) {pc : Nat} {Ls : Array Slot} {rest : List Value} (hd : decode c.code pc = .ok (.iastore, 1))
    (k : ∀ (T' : State) (h' : Heap), Stand p l e R s m args below meth c T' (locs ++ [⟨a, j.toNatClampNeg⟩]) cells slots → T'.heap = h' → Wr h h' a j.toNatClampNeg (.int x) → own_A Z h' a .int n (fun i => if i = j.toInt.toNat then (.int x) else f i) → Go p e below G kc ks Q T' (mkF m (pc + 1) Ls rest)) : Go p e below G kc ks Q T (mkF m pc Ls (.int x :: .int j :: .ref a :: rest)) := by
  obtain ⟨cl, Ar, hs, hn, H, G⟩ := A
  obtain ⟨T', h', X', e', W', st⟩ := stI X hx hZ eT Ar (j := j) (x := x) (own_in hs h0 h1) (g := mkF m pc Ls (.int x :: .int j :: .ref a :: rest)) rfl rfl hd
  exact own_st st (k T' h' X' e' W' (own_A.set Ar hs hn H G rfl W' (own_ilt hs h0 h1)))
theorem own_lastore (X : Stand p l e R s m args below meth c T locs cells slots) (hx : p.tables.exec = Jvm.exec) (hZ : Z.Warmed39 s.vm) (eT : T.heap = h) {a : Addr} {n j : Int32} {f : Nat → Value} {x : Int64} (A : own_A Z h a .long n f) (h0 : 0 ≤ j.toInt) (h1 : j.toInt < n.toInt) {pc : Nat} {Ls : Array Slot} {rest : List Value} (hd : decode c.code pc = .ok (.lastore, 1))
    (k : ∀ (T' : State) (h' : Heap), Stand p l e R s m args below meth c T' (locs ++ [⟨a, j.toNatClampNeg⟩]) cells slots → T'.heap = h' → Wr h h' a j.toNatClampNeg (.long x) → own_A Z h' a .long n (fun i => if i = j.toInt.toNat then (.long x) else f i) → Go p e below G kc ks Q T' (mkF m (pc + 1) Ls rest)) : Go p e below G kc ks Q T (mkF m pc Ls (.long x :: .int j :: .ref a :: rest)) := by
  obtain ⟨cl, Ar, hs, hn, H, G⟩ := A
  obtain ⟨T', h', X', e', W', st⟩ := stJ X hx hZ eT Ar (j := j) (x := x) (own_in hs h0 h1) (g := mkF m pc Ls (.long x :: .int j :: .ref a :: rest)) rfl rfl hd
  exact own_st st (k T' h' X' e' W' (own_A.set Ar hs hn H G rfl W' (own_ilt hs h0 h1)))
theorem own_bastore (X : Stand p l e R s m args below meth c T locs cells slots) (hx : p.tables.exec = Jvm.exec) (hZ : Z.Warmed39 s.vm) (eT : T.heap = h) {a : Addr} {n j : Int32} {f : Nat → Value} {x : Int32} (A : own_A Z h a .byte n f) (h0 : 0 ≤ j.toInt) (h1 : j.toInt < n.toInt) {pc : Nat} {Ls : Array Slot} {rest : List Value} (hd : decode c.code pc = .ok (.bastore, 1))
    (k : ∀ (T' : State) (h' : Heap), Stand p l e R s m args below meth c T' (locs ++ [⟨a, j.toNatClampNeg⟩]) cells slots → T'.heap = h' → Wr h h' a j.toNatClampNeg (.int (nar .byte x)) → own_A Z h' a .byte n (fun i => if i = j.toInt.toNat then (.int (nar .byte x)) else f i) → Go p e below G kc ks Q T' (mkF m (pc + 1) Ls rest)) : Go p e below G kc ks Q T (mkF m pc Ls (.int x :: .int j :: .ref a :: rest)) := by
  obtain ⟨cl, Ar, hs, hn, H, G⟩ := A
  obtain ⟨T', h', X', e', W', st⟩ := stB X hx hZ eT Ar (j := j) (x := x) (own_in hs h0 h1) (g := mkF m pc Ls (.int x :: .int j :: .ref a :: rest)) rfl rfl hd
  exact own_st st (k T' h' X' e' W' (own_A.set Ar hs hn H G (fits_nar_byte x) W' (own_ilt hs h0 h1)))
theorem own_castore (X : Stand p l e R s m args below meth c T locs cells slots) (hx : p.tables.exec = Jvm.exec) (hZ : Z.Warmed39 s.vm) (eT : T.heap = h) {a : Addr} {n j : Int32} {f : Nat → Value} {x : Int32} (A : own_A Z h a .char n f) (h0 : 0 ≤ j.toInt) (h1 : j.toInt < n.toInt) {pc : Nat} {Ls : Array Slot} {rest : List Value} (hd : decode c.code pc = .ok (.castore, 1))
    (k : ∀ (T' : State) (h' : Heap), Stand p l e R s m args below meth c T' (locs ++ [⟨a, j.toNatClampNeg⟩]) cells slots → T'.heap = h' → Wr h h' a j.toNatClampNeg (.int (nar .char x)) → own_A Z h' a .char n (fun i => if i = j.toInt.toNat then (.int (nar .char x)) else f i) → Go p e below G kc ks Q T' (mkF m (pc + 1) Ls rest)) : Go p e below G kc ks Q T (mkF m pc Ls (.int x :: .int j :: .ref a :: rest)) := by
  obtain ⟨cl, Ar, hs, hn, H, G⟩ := A
  obtain ⟨T', h', X', e', W', st⟩ := stC X hx hZ eT Ar (j := j) (x := x) (own_in hs h0 h1) (g := mkF m pc Ls (.int x :: .int j :: .ref a :: rest)) rfl rfl hd
  exact own_st st (k T' h' X' e' W' (own_A.set Ar hs hn H G (fits_nar_char x) W' (own_ilt hs h0 h1)))
theorem own_zastore (X : Stand p l e R s m args below meth c T locs cells slots) (hx : p.tables.exec = Jvm.exec) (hZ : Z.Warmed39 s.vm) (eT : T.heap = h) {a : Addr} {n j : Int32} {f : Nat → Value} {x : Int32} (A : own_A Z h a .boolean n f) (h0 : 0 ≤ j.toInt) (h1 : j.toInt < n.toInt) {pc : Nat} {Ls : Array Slot} {rest : List Value} (hd : decode c.code pc = .ok (.bastore, 1))
    (k : ∀ (T' : State) (h' : Heap), Stand p l e R s m args below meth c T' (locs ++ [⟨a, j.toNatClampNeg⟩]) cells slots → T'.heap = h' → Wr h h' a j.toNatClampNeg (.int (nar .boolean x)) → own_A Z h' a .boolean n (fun i => if i = j.toInt.toNat then (.int (nar .boolean x)) else f i) → Go p e below G kc ks Q T' (mkF m (pc + 1) Ls rest)) : Go p e below G kc ks Q T (mkF m pc Ls (.int x :: .int j :: .ref a :: rest)) := by
  obtain ⟨cl, Ar, hs, hn, H, G⟩ := A
  obtain ⟨T', h', X', e', W', st⟩ := stZ X hx hZ eT Ar (j := j) (x := x) (own_in hs h0 h1) (g := mkF m pc Ls (.int x :: .int j :: .ref a :: rest)) rfl rfl hd
  exact own_st st (k T' h' X' e' W' (own_A.set Ar hs hn H G (fits_nar_bool x) W' (own_ilt hs h0 h1)))
theorem own_eqv {args : Array Value} {s : State} {t : Term} {k : Int32} (h : (Jvm.Cond.eq t (.int k)).value args s none s [] = some true) : t.eval args s none [] s = some (.int k) := by
  simp only [Cond.value, Term.eval] at h
  cases e : t.eval args s none [] s with
  | none => simp [e] at h
  | some v => cases v <;> simp [e] at h; exact congrArg _ (congrArg _ h)
theorem own_fldeq {args : Array Value} {s : State} {t : Term} {x : Addr} {C n d : String} {k : Int32} (ht : t.eval args s none [] s = some (.ref x)) (h : (Jvm.Cond.eq (.field t C n d) (.int k)).value args s none s [] = some true) : Fld s s.heap x C n d (.int k) :=
  Fld.start ((fld_at ht).symm.trans (own_eqv h))
/-- the array at a is one of C's -/
def own_O (Z : State) (h : Heap) (a : Addr) (C : String) : Prop := ∃ cl : Cell, h[a]? = some cl ∧ Ovr Z cl.cls C
theorem own_O.ext {h h' : Heap} {a : Addr} {C : String} (F : own_O Z h a C) (E : Ext h h') : own_O Z h' a C := by obtain ⟨c, A, r⟩ := F; exact ⟨c, E.2 _ _ A, r⟩
theorem own_O.wr {h h' : Heap} {a b : Addr} {C : String} {sl : Nat} {v : Value} (F : own_O Z h a C) (W : Wr h h' b sl v) : own_O Z h' a C := by
  obtain ⟨c, A, r⟩ := F
  obtain ⟨c', e1, e2, -⟩ := wr_at W A
  exact ⟨c', e1, by rw [e2]; exact r⟩
theorem own_newarrR (X : Stand p l e R s m args below meth c T locs cells slots) (hx : p.tables.exec = Jvm.exec) (hZ : Z.Warmed39 s.vm) {own C : String} {index : Nat} (hown : s.vm.findClass own = some m.cls) (w1 : (Jvm.Cond.classLink own index C).before a0 Z = true) (w2 : (Jvm.Cond.arrayOver (.object C)).before a0 Z = true) (eT : T.heap = h) {pc : Nat} {Ls : Array Slot} (hd : decode c.code pc = .ok (.anewarray index, 3)) {n : Int32} {rest : List Value}
    (hn : 0 ≤ n.toInt) {cap : Nat} (hcap : n.toInt ≤ cap) (hb : cap * 8 ≤ 536870912) (hc : cells + 1 ≤ R.cells) (hl : slots + cap ≤ R.slots)
    (k : ∀ (T' : State) (h' : Heap) (a : Addr), a = h.size → Stand p l e R s m args below meth c T' locs (cells + 1) (slots + cap) → T'.heap = h' → Ext h h' → own_A Z h' a (.object C) n (fun _ => .null) → own_O Z h' a C → Go p e below G kc ks Q T' (mkF m (pc + 3) Ls (.ref a :: rest))) :
    Go p e below G kc ks Q T (mkF m pc Ls (.int n :: rest)) := by
  obtain ⟨T', h', cA, X', e', E', A', O', st⟩ := newR X hx hZ hown w1 w2 eT (g := mkF m pc Ls (.int n :: rest)) rfl hd rfl (own_nneg hn) (cap := cap) (by rw [own_cl]; omega) hb hc hl
  exact own_st st (k T' h' _ rfl X' e' E' (own_A.new A' hn rfl) ⟨_, A'.1, O'⟩)
theorem own_aastore (X : Stand p l e R s m args below meth c T locs cells slots) (hx : p.tables.exec = Jvm.exec) (hZ : Z.Warmed39 s.vm) (eT : T.heap = h) {a y : Addr} {n j : Int32} {f : Nat → Value} {C : String} (A : own_A Z h a (.object C) n f) (O : own_O Z h a C) (I : Ins Z h y C true) (h0 : 0 ≤ j.toInt) (h1 : j.toInt < n.toInt) {pc : Nat} {Ls : Array Slot} {rest : List Value} (hd : decode c.code pc = .ok (.aastore, 1))
    (k : ∀ (T' : State) (h' : Heap), Stand p l e R s m args below meth c T' (locs ++ [⟨a, j.toNatClampNeg⟩]) cells slots → T'.heap = h' → Wr h h' a j.toNatClampNeg (.ref y) → own_A Z h' a (.object C) n (fun i => if i = j.toInt.toNat then .ref y else f i) → Go p e below G kc ks Q T' (mkF m (pc + 1) Ls rest)) : Go p e below G kc ks Q T (mkF m pc Ls (.ref y :: .int j :: .ref a :: rest)) := by
  obtain ⟨cl, Ar, hs, hn, H, G⟩ := A
  obtain ⟨cl', o1, o2⟩ := O
  cases Ar.1.symm.trans o1
  obtain ⟨T', h', X', e', W', st⟩ := stR X hx hZ eT Ar (j := j) (v := .ref y) (own_in hs h0 h1) rfl (Sto.of Ar o2 I) (g := mkF m pc Ls (.ref y :: .int j :: .ref a :: rest)) rfl rfl hd
  exact own_st st (k T' h' X' e' W' (own_A.set Ar hs hn H G rfl W' (own_ilt hs h0 h1)))
theorem own_sk0 {h h' : Heap} {C n d : String} {v : Value} (F : Sta Z h C n d v) (K : Keep h h' []) : Sta Z h' C n d v := by
  obtain ⟨cf, i, k, f, st, cell, h1, h2, h3, h4, h5, r⟩ := F
  exact ⟨cf, i, k, f, st, cell, h1, h2, h3, h4, K.2.1 _ _ h5 nin0, r⟩
theorem own_sk1 {h h' : Heap} {a : Addr} {C n d D : String} {v : Value} (F : Sta Z h C n d v) (K : Keep h h' [a]) (E : Exa Z h a D) : Sta Z h' C n d v := by
  obtain ⟨cf, i, k, f, st, cell, h1, h2, h3, h4, h5, h6, h7⟩ := F
  obtain ⟨c2, k2, e1, e2, e3, e4, e5⟩ := E
  have ne : st ≠ a := fun q => by
    subst q
    cases h5.symm.trans e1
    rw [e4] at h6; cases h6
  exact ⟨cf, i, k, f, st, cell, h1, h2, h3, h4, K.2.1 _ _ h5 (ninS ne nin0), h6, h7⟩
/-- each of the first n places holds an object of class D -/
def own_IC (Z : State) (h : Heap) (D : String) (n : Nat) (f : Nat → Value) : Prop := ∀ i, i < n → ∃ b : Addr, f i = .ref b ∧ Exa Z h b D
theorem own_IC.ext {h h' : Heap} {D : String} {n : Nat} {f : Nat → Value} (F : own_IC Z h D n f) (E : Ext h h') : own_IC Z h' D n f := fun i hi => by obtain ⟨b, e1, e2⟩ := F i hi; exact ⟨b, e1, e2.ext E⟩
theorem own_IC.wr {h h' : Heap} {D : String} {n : Nat} {f : Nat → Value} {a : Addr} {sl : Nat} {v : Value} (F : own_IC Z h D n f) (W : Wr h h' a sl v) : own_IC Z h' D n f := fun i hi => by obtain ⟨b, e1, e2⟩ := F i hi; exact ⟨b, e1, Exa.wr W e2⟩
theorem own_IC.keep {h h' : Heap} {D : String} {n : Nat} {f : Nat → Value} {ws : List Addr} (F : own_IC Z h D n f) (K : Keep h h' ws) : own_IC Z h' D n f := fun i hi => by obtain ⟨b, e1, e2⟩ := F i hi; exact ⟨b, e1, e2.keep K⟩
/-- an object of class D is no K -/
theorem own_notIns {h : Heap} {b : Addr} {D K : String} {t : List String} {kk : Nat} (E : Exa Z h b D) (hw : ∀ w ∈ Cond.chainWords (D :: t), w.before a0 Z = true) (wi : (Jvm.Cond.instantiable K kk).before a0 Z = true) (hn : K ∉ D :: t) : Ins Z h b K false := by
  obtain ⟨cell, k, e1, e2, e3, e4, e5⟩ := E
  obtain ⟨cK, kK, i1, i2, i3, i4⟩ := Cond.instantiable_spec wi
  refine ⟨cell, cK, e1, i1, ?_⟩
  rw [Vm.notAssignable_of_chain e2 i1 i2 i3 (by simpa using (Bool.or_eq_false_iff.mp i4.1).1) hw hn]
  simp
theorem own_cache {s : State} {args : Array Value} {t : Term} {a : Addr} {K : String} {B : Jvm.Cond} (et : ∀ idx, t.eval args s none idx s = some (.ref a)) (hA : (Jvm.Cond.arrayOf t (.object K)).value args s none s [] = some true) (hL : (Jvm.Cond.eq (.length t) (.int 256)).value args s none s [] = some true)
    (h : (Jvm.Cond.all t (.and (.exactly (.elem t (.index 0)) K) B)).value args s none s [] = some true) : ∃ fc, own_A s s.heap a (.object K) 256 fc ∧ own_IC s s.heap K 256 fc := by
  obtain ⟨cl, A⟩ := Arr.start (et []) hA
  have ha := A.fin (Vm.Alike.refl _)
  have hl := own_eqv hL
  have hsz : cl.slots.size = 256 := by
    by_cases q : cl.slots.size < 2 ^ 31
    · rw [len_f (et []) ha q] at hl
      have e := congrArg Int32.toInt (Value.int.inj (Option.some.inj hl))
      rw [len_toInt q] at e
      have k : (256 : Int32).toInt = 256 := rfl
      omega
    · simp [Term.eval, et [], ha, q] at hl
  have hel : ∀ i, i < cl.slots.size → ∃ b : Addr, cl.slots[i]? = some (.ref b) ∧ Exa s s.heap b K := fun i hi => by
    have hj : ¬ i.toInt32 < 0 := fun z => (idx_in hi (by omega)) (Or.inl z)
    have hc : i.toInt32.toNatClampNeg = i := by
      rw [own_cl, len_toInt (by omega)]; rfl
    obtain ⟨u1, u2⟩ := and_e (Cond.all_elim (et []) ha h i hi)
    obtain ⟨b, eb⟩ := exa_v u1
    refine ⟨b, ?_, exa_at eb u1⟩
    have q := (elem_f (idx := [i]) (a := .index 0) (j := i.toInt32) (et _) (by have := idx_at (args := args) (s := s) (first := s) (o := none) hj; rwa [hc] at this) ha hj).symm.trans eb
    rwa [hc] at q
  refine ⟨fun i => (cl.slots[i]?).getD .null, ⟨cl, A, by rw [hsz]; rfl, by decide, fun i hi => ?_, fun i hi => ?_⟩, fun i hi => ?_⟩
  · obtain ⟨b, e, -⟩ := hel i hi; simp [e]
  · obtain ⟨b, e, -⟩ := hel i hi; simp [e, fits]
  · obtain ⟨b, e, E⟩ := hel i (by omega); exact ⟨b, by simp [e], E⟩
end OwnKit
section OwnBytes
variable {p : Program} {l : Launch} {e : Env} {R : Room} {s : State} {G : own_K} {m : MethodId} {args : Array Value} {below : List Frame} {meth : Method} {c : Code} {T T' : State} {locs : List Loc} {cells slots : Nat} {Z : State} {a0 : Array Value} {h : Heap} {kc ks : Nat} {Q : Option Value → Heap → List Loc → Prop}
/-- newarray, with the array's class by its name -/
theorem own_newarrE (X : Stand p l e R s m args below meth c T locs cells slots) (hx : p.tables.exec = Jvm.exec) (hZ : Z.Warmed39 s.vm) {aty : ArrayType} (w : (Jvm.Cond.arrayClass (newarray.typeOf aty)).before a0 Z = true) (eT : T.heap = h) {pc : Nat} {Ls : Array Slot} (hd : decode c.code pc = .ok (.newarray aty, 2)) {n : Int32} {rest : List Value}
    (hn : 0 ≤ n.toInt) {cap : Nat} (hcap : n.toInt ≤ cap) (hb : cap * 8 ≤ 536870912) (hc : cells + 1 ≤ R.cells) (hl : slots + cap ≤ R.slots) (hf : fits (newarray.typeOf aty) (defaultValue (newarray.typeOf aty)) = true) {C : String} (hC : "[" ++ (newarray.typeOf aty).toString = C)
    (k : ∀ (T' : State) (h' : Heap) (a : Addr), a = h.size → Stand p l e R s m args below meth c T' locs (cells + 1) (slots + cap) → T'.heap = h' → Ext h h' → own_A Z h' a (newarray.typeOf aty) n (fun _ => defaultValue (newarray.typeOf aty)) → Exa Z h' a C → Go p e below G kc ks Q T' (mkF m (pc + 2) Ls (.ref a :: rest))) :
    Go p e below G kc ks Q T (mkF m pc Ls (.int n :: rest)) := by
  have hcb : componentBytes (newarray.typeOf aty) ≤ 8 := by cases aty <;> decide
  have hcap' : n.toNatClampNeg ≤ cap := by rw [own_cl]; omega
  obtain ⟨cA, kA, comp, h1, h2, h3, X', st⟩ := X.newarrayPrim hx (mvA hZ w) (g := mkF m pc Ls (.int n :: rest)) rfl hd rfl (own_nneg hn) (Nat.le_trans (Nat.mul_le_mul hcap' hcb) hb) hc (by omega)
  subst eT
  rw [hZ.alike.findClass] at h1
  obtain ⟨kZ, z1, -⟩ := Vm.findClass_spec h1
  obtain ⟨k', z2, z3⟩ := hZ.alike.2.2 _ _ z1
  cases h2.symm.trans z2
  have A' : Arr Z (T.heap.push (newA cA (newarray.typeOf aty) n)) T.heap.size (newA cA (newarray.typeOf aty) n) (newarray.typeOf aty) := ⟨by simp [newA], ⟨by simp [newA], kZ, z1, comp, by rw [← h3, z3]⟩, by simp [newA]⟩
  refine own_st st (k _ _ _ rfl (X'.more (Nat.le_refl _) (by omega)) rfl ⟨by show T.heap.size ≤ (T.heap.push _).size; simp, fun a c h => ?_⟩ (own_A.new A' hn hf) (exa_arr A' (by rw [← hC]; exact h1) rfl))
  show (T.heap.push _)[a]? = _
  rw [Array.getElem?_push_lt (Array.getElem?_eq_some_iff.mp h).1]; exact (Array.getElem?_eq_getElem _).symm.trans h
/-- a byte[] of length n whose first places hold q -/
def own_B (Z : State) (h : Heap) (a : Addr) (q : List Int32) (n : Int32) : Prop := ∃ f, own_A Z h a .byte n f ∧ ∀ i, i < q.length → f i = .int (q.getD i 0)
section
variable {h h' : Heap} {a b : Addr} {q : List Int32} {n : Int32} {sl : Nat} {v : Value} {ws : List Addr}
theorem own_B.lt (F : own_B Z h a q n) : a < h.size := by obtain ⟨f, A, -⟩ := F; exact A.lt
theorem own_B.ext (F : own_B Z h a q n) (E : Ext h h') : own_B Z h' a q n := by obtain ⟨f, A, r⟩ := F; exact ⟨f, A.ext E, r⟩
theorem own_B.other (F : own_B Z h b q n) (W : Wr h h' a sl v) (z : b ≠ a) : own_B Z h' b q n := by obtain ⟨f, A, r⟩ := F; exact ⟨f, A.other W z, r⟩
theorem own_B.keep (F : own_B Z h a q n) (K : Keep h h' ws) (z : a ∉ ws) : own_B Z h' a q n := by obtain ⟨f, A, r⟩ := F; exact ⟨f, A.keep K z, r⟩
theorem own_B.new {f : Nat → Value} (A : own_A Z h a .byte n f) : own_B Z h a [] n := ⟨f, A, fun i hi => absurd hi (by simp)⟩
end
theorem own_narb {x : Int32} (h0 : -128 ≤ x.toInt) (h1 : x.toInt ≤ 127) : nar .byte x = x := by
  have q := c_i2b x
  apply Int32.toInt_inj.mp
  show (x.toInt8.toInt32).toInt = x.toInt
  omega
theorem own_bput (X : Stand p l e R s m args below meth c T locs cells slots) (hx : p.tables.exec = Jvm.exec) (hZ : Z.Warmed39 s.vm) (eT : T.heap = h) {a : Addr} {n j x : Int32} {q : List Int32} (A : own_B Z h a q n) (h0 : j.toInt = q.length) (h1 : j.toInt < n.toInt) (b0 : -128 ≤ x.toInt) (b1 : x.toInt ≤ 127) {pc : Nat} {Ls : Array Slot} {rest : List Value} (hd : decode c.code pc = .ok (.bastore, 1))
    (k : ∀ (T' : State) (h' : Heap), Stand p l e R s m args below meth c T' (locs ++ [⟨a, j.toNatClampNeg⟩]) cells slots → T'.heap = h' → Wr h h' a j.toNatClampNeg (.int x) → own_B Z h' a (q ++ [x]) n → Go p e below G kc ks Q T' (mkF m (pc + 1) Ls rest)) : Go p e below G kc ks Q T (mkF m pc Ls (.int x :: .int j :: .ref a :: rest)) := by
  obtain ⟨f, A, F⟩ := A
  refine own_bastore X hx hZ eT A (by omega) h1 hd ?_
  intro T' h' X' e' W' A'
  rw [own_narb b0 b1] at W' A'
  refine k T' h' X' e' W' ⟨_, A', fun i hi => ?_⟩
  have jt : j.toInt.toNat = q.length := by omega
  rw [List.length_append, List.length_singleton] at hi
  by_cases t : i = q.length
  · simp [jt, t]
  · have : i < q.length := by omega
    simp only [jt, t, if_false]
    rw [F i this]
    simp [List.getD_eq_getElem?_getD, List.getElem?_append_left this]
theorem own_bget (X : Stand p l e R s m args below meth c T locs cells slots) (hx : p.tables.exec = Jvm.exec) (hZ : Z.Warmed39 s.vm) (eT : T.heap = h) {a : Addr} {n j v : Int32} {q : List Int32} (A : own_B Z h a q n) (h0 : 0 ≤ j.toInt) (h1 : j.toInt < q.length) (h2 : j.toInt < n.toInt) (hv : q.getD j.toInt.toNat 0 = v) {pc : Nat} {Ls : Array Slot} {rest : List Value} (hd : decode c.code pc = .ok (.baload, 1))
    (k : Go p e below G kc ks Q T (mkF m (pc + 1) Ls (.int v :: rest))) : Go p e below G kc ks Q T (mkF m pc Ls (.int j :: .ref a :: rest)) := by
  obtain ⟨f, A, F⟩ := A
  exact own_baload X hx hZ eT A h0 h2 (v := .int v) (by rw [F _ (by omega), hv]) hd k
theorem own_blen (X : Stand p l e R s m args below meth c T locs cells slots) (hx : p.tables.exec = Jvm.exec) (hZ : Z.Warmed39 s.vm) (eT : T.heap = h) {a : Addr} {n : Int32} {q : List Int32} (A : own_B Z h a q n) {pc : Nat} {Ls : Array Slot} {rest : List Value} (hd : decode c.code pc = .ok (.arraylength, 1))
    (k : Go p e below G kc ks Q T (mkF m (pc + 1) Ls (.int n :: rest))) : Go p e below G kc ks Q T (mkF m pc Ls (.ref a :: rest)) := by
  obtain ⟨f, A, F⟩ := A
  exact own_alen X hx hZ eT A hd k
theorem own_fitC {a : Addr} {ty : FieldType} {cl : Cell} {f : Nat → Value} (A : Arr Z h a cl ty) (H : ∀ i, i < cl.slots.size → cl.slots[i]? = some (f i)) (G : ∀ i, i < cl.slots.size → fits ty (f i) = true) : FitC Z cl := fun i v hv => by
  obtain ⟨hi, -⟩ := Array.getElem?_eq_some_iff.mp hv
  have e1 : v = f i := Option.some.inj (hv.symm.trans (H i hi))
  obtain ⟨hs, k, hk, comp, hkind⟩ := A.2.1
  have e : Z.slotType? cl.cls .none i = some ty := by simp [State.slotType?, hk, hkind]
  rw [e1]
  simpa [State.fitsSlot, e] using G i hi
/-- clone() of an array -/
theorem own_clone (X : Stand p l e R s m args below meth c T locs cells slots) (hx : p.tables.exec = Jvm.exec) (hZ : Z.Warmed39 s.vm) {own ad : String} {index : Nat} (hown : s.vm.findClass own = some m.cls)
    (w1 : (Jvm.Cond.methodLink own index ⟨ad, "clone", "()Ljava/lang/Object;"⟩).before a0 Z = true) (w2 : (Jvm.Cond.sameMethod ad "java/lang/Object" "clone" "()Ljava/lang/Object;").before a0 Z = true) (w3 : (Jvm.Cond.native ⟨"java/lang/Object", "clone", "()Ljava/lang/Object;"⟩).before a0 Z = true)
    (w4 : (Jvm.Cond.instanceMethod ⟨"java/lang/Object", "clone", "()Ljava/lang/Object;"⟩).before a0 Z = true) (w5 : (Jvm.Cond.selects ad ⟨ad, "clone", "()Ljava/lang/Object;"⟩ ⟨"java/lang/Object", "clone", "()Ljava/lang/Object;"⟩).before a0 Z = true) (w6 : (Jvm.Cond.castable ad "java/lang/Cloneable").before a0 Z = true)
    (eT : T.heap = h) {a : Addr} {ty : FieldType} {n : Int32} {f : Nat → Value} (A : own_A Z h a ty n f) (E : Exa Z h a ad) {pc : Nat} {Ls : Array Slot} {rest : List Value} (hsize : Ls.size = c.maxLocals) (hd : decode c.code pc = .ok (.invokevirtual index, 3))
    (hf : 1 ≤ R.frames) {W cap : Nat} (hW : (rest.map fun v => v.category).sum ≤ W) (hl : W + 14 ≤ R.locals) (hcap : n.toInt ≤ cap) (hc : cells + 1 ≤ R.cells) (hsl : slots + cap ≤ R.slots)
    (k : ∀ (T' : State) (h' : Heap) (a' : Addr), a' = h.size → Stand p l e R s m args below meth c T' locs (cells + 1) (slots + cap) → T'.heap = h' → Ext h h' → own_A Z h' a' ty n f → Exa Z h' a' ad → Go p e below G kc ks Q T' (mkF m (pc + 3) Ls (.ref a' :: rest))) :
    Go p e below G kc ks Q T (mkF m pc Ls (.ref a :: rest)) := by
  obtain ⟨cl, Ar, hs, hn, H, G⟩ := A
  obtain ⟨T', h', X', e', E', A', EX, st⟩ := cloneA X hx hZ hown w1 w2 w3 w4 w5 w6 eT Ar E (own_fitC Ar H G) (g := mkF m pc Ls (.ref a :: rest)) rfl hsize rfl hd hf (W := W) (cap := cap) (by show 2 * 0 + _ ≤ _; omega) hl (by rw [hs, own_cl]; omega) hc hsl
  exact own_st st (k T' h' _ rfl X' e' E' ⟨_, A', hs, hn, H, G⟩ EX)
end OwnBytes
section OwnMore
variable {p : Program} {l : Launch} {e : Env} {R : Room} {s : State} {G : own_K} {m : MethodId} {args : Array Value} {below : List Frame} {meth : Method} {c : Code} {T T' : State} {locs : List Loc} {cells slots : Nat} {Z : State} {a0 : Array Value} {h : Heap} {kc ks : Nat} {Q : Option Value → Heap → List Loc → Prop}
theorem own_getD (f : Nat → Value) {N i : Nat} (d : Value) (q : i < N) : ((List.range N).map f).getD i d = f i := by
  simp [List.getD_eq_getElem?_getD, q]
theorem own_A.arv {h : Heap} {a : Addr} {ty : FieldType} {n : Int32} {f : Nat → Value} (F : own_A Z h a ty n f) (d : Value) : ∃ k, Arv Z h a k ty n ((List.range n.toInt.toNat).map f) d := by
  obtain ⟨cl, A, hs, h0, H, G⟩ := F
  refine ⟨cl.cls, cl, A, rfl, hs, own_nneg h0, fun i hi => ?_, fun i hi => ?_⟩
  · rw [H i hi, own_getD f d (by rw [hs, own_cl] at hi; exact hi)]
  · rw [own_getD f d (by rw [hs, own_cl] at hi; exact hi)]; exact G i hi
theorem own_A.of {h : Heap} {a : Addr} {k : ClassId} {ty : FieldType} {n : Int32} {vs : List Value} {d : Value} {f : Nat → Value} (F : Arv Z h a k ty n vs d) (h0 : 0 ≤ n.toInt) (q : ∀ i, i < n.toInt.toNat → vs.getD i d = f i) : own_A Z h a ty n f := by
  obtain ⟨cl, A, r1, hs, r3, H, G⟩ := F
  have t : ∀ i, i < cl.slots.size → vs.getD i d = f i := fun i hi => q i (by rw [hs, own_cl] at hi; exact hi)
  exact ⟨cl, A, hs, h0, fun i hi => by rw [← t i hi]; exact H i hi, fun i hi => by rw [← t i hi]; exact G i hi⟩
theorem own_splice (fb fa : Nat → Value) (N sp dp nn i : Nat) (d da : Value) (na : Nat) (hd : dp + nn ≤ N) (hs : sp + nn ≤ na) (hi : i < N) :
    (((List.range N).map fb).take dp ++ (List.range nn).map (fun j => ((List.range na).map fa).getD (sp + j) da) ++ ((List.range N).map fb).drop (dp + nn)).getD i d = if dp ≤ i ∧ i < dp + nn then fa (sp + (i - dp)) else fb i := by
  simp only [List.getD_eq_getElem?_getD, List.append_assoc]
  by_cases h1 : i < dp
  · rw [List.getElem?_append_left (by simp; omega), if_neg (by omega)]
    simp [List.getElem?_take, h1, hi]
  · rw [List.getElem?_append_right (by simp; omega)]
    simp only [List.length_take, List.length_map, List.length_range]
    have e1 : min dp N = dp := by omega
    rw [e1]
    by_cases h2 : i < dp + nn
    · rw [List.getElem?_append_left (by simp; omega), if_pos (by omega)]
      have h3 : i - dp < nn := by omega
      have h4 : sp + (i - dp) < na := by omega
      simp [h3, h4]
    · rw [List.getElem?_append_right (by simp; omega), if_neg (by omega)]
      simp only [List.length_map, List.length_range]
      rw [List.getElem?_drop]
      have e2 : dp + nn + (i - dp - nn) = i := by omega
      rw [e2]; simp [hi]
/-- System.arraycopy between arrays of one primitive kind -/
theorem own_copy (X : Stand p l e R s m args below meth c T locs cells slots) (hx : p.tables.exec = Jvm.exec) (hZ : Z.Warmed39 s.vm) {own : String} {index : Nat} (hown : s.vm.findClass own = some m.cls)
    (w1 : (Jvm.Cond.methodLink own index Jvm.Stand.acN).before a0 Z = true) (w2 : (Jvm.Cond.native Jvm.Stand.acN).before a0 Z = true) (w3 : (Jvm.Cond.static Jvm.Stand.acN).before a0 Z = true) (w4 : (Jvm.Cond.initialized "java/lang/System").before a0 Z = true) (eT : T.heap = h)
    {a b : Addr} {ty : FieldType} {na nb sp dp nn : Int32} {fa fb : Nat → Value} (A : own_A Z h a ty na fa) (B : own_A Z h b ty nb fb) (hty : refKind ty = false) (h1 : 0 ≤ sp.toInt) (h2 : 0 ≤ dp.toInt) (h3 : 0 ≤ nn.toInt) (h4 : sp.toInt + nn.toInt ≤ na.toInt) (h5 : dp.toInt + nn.toInt ≤ nb.toInt)
    {n0 : Nat} (N : Fr n0 locs) (ge : n0 ≤ b) {pc : Nat} {Ls : Array Slot} {rest : List Value} (hsize : Ls.size = c.maxLocals) (hd : decode c.code pc = .ok (.invokestatic index, 3)) (hf : 1 ≤ R.frames) {W : Nat} (hW : (rest.map fun v => v.category).sum ≤ W) (hlo : W + (nativeFrameWords "java/lang/System" "arraycopy" 5 + 11) ≤ R.locals)
    (k : ∀ (T' : State) (h' : Heap) (L : List Loc), Stand p l e R s m args below meth c T' L cells slots → T'.heap = h' → Fr n0 L → Keep h h' [b] → own_A Z h' b ty nb (fun i => if dp.toInt.toNat ≤ i ∧ i < dp.toInt.toNat + nn.toInt.toNat then fa (sp.toInt.toNat + (i - dp.toInt.toNat)) else fb i) → Go p e below G kc ks Q T' (mkF m (pc + 3) Ls rest)) :
    Go p e below G kc ks Q T (mkF m pc Ls (.int nn :: .int dp :: .ref b :: .int sp :: .ref a :: rest)) := by
  obtain ⟨ka, VA⟩ := A.arv (.int 0)
  obtain ⟨kb, VB⟩ := B.arv (.int 0)
  have hb0 : 0 ≤ nb.toInt := by obtain ⟨_, _, _, q, _⟩ := B; exact q
  obtain ⟨T', h', L, X', e', N', K', V', st⟩ := cpA X hx hZ hown w1 w2 w3 w4 eT VA VB (Or.inl ⟨rfl, hty⟩) (own_nneg h1) (own_nneg h2) (own_nneg h3) (by rw [own_cl, own_cl, own_cl]; omega) (by rw [own_cl, own_cl, own_cl]; omega) rfl (by rw [List.length_map, List.length_range, own_cl, own_cl]; omega) N ge (g := mkF m pc Ls (.int nn :: .int dp :: .ref b :: .int sp :: .ref a :: rest)) rfl hsize rfl hd hf (W := W) (by show 2 * 0 + _ ≤ _; omega) hlo
  exact own_st st (k T' h' L X' e' N' K' (own_A.of V' hb0 fun i hi => by
    rw [own_cl, own_cl, own_cl]
    exact own_splice fb fa _ _ _ _ i _ _ _ (by omega) (by omega) hi))
/-- the array at a takes arrays of class C -/
def own_OA (Z : State) (h : Heap) (a : Addr) (ty : FieldType) (C : String) : Prop := ∃ cl : Cell, h[a]? = some cl ∧ OvrA Z cl.cls ty C
theorem own_OA.ext {h h' : Heap} {a : Addr} {ty : FieldType} {C : String} (F : own_OA Z h a ty C) (E : Ext h h') : own_OA Z h' a ty C := by obtain ⟨c, A, r⟩ := F; exact ⟨c, E.2 _ _ A, r⟩
theorem own_OA.wr {h h' : Heap} {a b : Addr} {ty : FieldType} {C : String} {sl : Nat} {v : Value} (F : own_OA Z h a ty C) (W : Wr h h' b sl v) : own_OA Z h' a ty C := by
  obtain ⟨c, A, r⟩ := F
  obtain ⟨c', e1, e2, -⟩ := wr_at W A
  exact ⟨c', e1, by rw [e2]; exact r⟩
theorem own_OA.keep {h h' : Heap} {a : Addr} {ty : FieldType} {C : String} {ws : List Addr} (F : own_OA Z h a ty C) (K : Keep h h' ws) : own_OA Z h' a ty C := by
  obtain ⟨c, A, r⟩ := F
  obtain ⟨c', e1, e2, -⟩ := K.2.2 _ _ A
  exact ⟨c', e1, by rw [e2]; exact r⟩
theorem own_newarrA (X : Stand p l e R s m args below meth c T locs cells slots) (hx : p.tables.exec = Jvm.exec) (hZ : Z.Warmed39 s.vm) {own C : String} {ty : FieldType} {index : Nat} (hown : s.vm.findClass own = some m.cls) (hC : (FieldType.array ty).toString = C) (w1 : (Jvm.Cond.classLink own index C).before a0 Z = true) (w2 : (Jvm.Cond.arrayOver (.array ty)).before a0 Z = true) (eT : T.heap = h) {pc : Nat} {Ls : Array Slot} (hd : decode c.code pc = .ok (.anewarray index, 3)) {n : Int32} {rest : List Value}
    (hn : 0 ≤ n.toInt) {cap : Nat} (hcap : n.toInt ≤ cap) (hb : cap * 8 ≤ 536870912) (hc : cells + 1 ≤ R.cells) (hl : slots + cap ≤ R.slots)
    (k : ∀ (T' : State) (h' : Heap) (a : Addr), a = h.size → Stand p l e R s m args below meth c T' locs (cells + 1) (slots + cap) → T'.heap = h' → Ext h h' → own_A Z h' a (.array ty) n (fun _ => .null) → own_OA Z h' a ty C → Go p e below G kc ks Q T' (mkF m (pc + 3) Ls (.ref a :: rest))) :
    Go p e below G kc ks Q T (mkF m pc Ls (.int n :: rest)) := by
  obtain ⟨T', h', cA, X', e', E', A', EX, O', st⟩ := newRA X hx hZ hown hC w1 w2 eT (g := mkF m pc Ls (.int n :: rest)) rfl hd rfl (own_nneg hn) (cap := cap) (by rw [own_cl]; omega) hb hc hl rfl
  exact own_st st (k T' h' _ rfl X' e' E' (own_A.new A' hn rfl) ⟨_, A'.1, O'⟩)
theorem own_aastoreA (X : Stand p l e R s m args below meth c T locs cells slots) (hx : p.tables.exec = Jvm.exec) (hZ : Z.Warmed39 s.vm) (eT : T.heap = h) {a y : Addr} {n j : Int32} {f : Nat → Value} {ty : FieldType} {C : String} (A : own_A Z h a (.array ty) n f) (O : own_OA Z h a ty C) (I : Ins Z h y C true) (h0 : 0 ≤ j.toInt) (h1 : j.toInt < n.toInt) {pc : Nat} {Ls : Array Slot} {rest : List Value} (hd : decode c.code pc = .ok (.aastore, 1))
    (k : ∀ (T' : State) (h' : Heap), Stand p l e R s m args below meth c T' (locs ++ [⟨a, j.toNatClampNeg⟩]) cells slots → T'.heap = h' → Wr h h' a j.toNatClampNeg (.ref y) → own_A Z h' a (.array ty) n (fun i => if i = j.toInt.toNat then .ref y else f i) → Go p e below G kc ks Q T' (mkF m (pc + 1) Ls rest)) : Go p e below G kc ks Q T (mkF m pc Ls (.ref y :: .int j :: .ref a :: rest)) := by
  obtain ⟨cl, Ar, hs, hn, H, G⟩ := A
  obtain ⟨cl', o1, o2⟩ := O
  cases Ar.1.symm.trans o1
  obtain ⟨T', h', X', e', W', st⟩ := stR X hx hZ eT Ar (j := j) (v := .ref y) (own_in hs h0 h1) rfl (Sto.ofVA Ar rfl o2 I) (g := mkF m pc Ls (.ref y :: .int j :: .ref a :: rest)) rfl rfl hd
  exact own_st st (k T' h' X' e' W' (own_A.set Ar hs hn H G rfl W' (own_ilt hs h0 h1)))
theorem own_neT {h : Heap} {a b : Addr} {ty ty' : FieldType} {n n' : Int32} {f f' : Nat → Value} (A : own_A Z h a ty n f) (B : own_A Z h b ty' n' f') (hn : ty ≠ ty') : a ≠ b := fun q => by
  subst q
  obtain ⟨cl, A, -⟩ := A
  obtain ⟨cl', B, -⟩ := B
  cases A.1.symm.trans B.1
  obtain ⟨-, k, a1, comp, a2⟩ := A.2.1
  obtain ⟨-, k', b1, comp', b2⟩ := B.2.1
  cases a1.symm.trans b1
  rw [a2] at b2
  cases b2
  exact hn rfl
theorem own_neE {h : Heap} {a b : Addr} {ty : FieldType} {n : Int32} {f : Nat → Value} {C : String} {k : Nat} (E : Exa Z h a C) (wi : (Jvm.Cond.instantiable C k).before a0 Z = true) (B : own_A Z h b ty n f) : a ≠ b := by
  obtain ⟨cl, B, -⟩ := B
  exact ne_arr E wi B
/-- an own private method by its contract -/
theorem own_callP (X : Stand p l e R s m args below meth c T locs cells slots) (hx : p.tables.exec = Jvm.exec) (hZ : Z.Warmed39 s.vm) {own C : String} {index kk : Nat} {y : MethodName} {bytes : ByteArray} {maxL : Nat} {ret : Option FieldType} (hown : s.vm.findClass own = some m.cls)
    (w1 : (Jvm.Cond.methodLink own index y).before a0 Z = true) (w2 : (Jvm.Cond.instanceMethod y).before a0 Z = true) (w3 : (Jvm.Cond.privateMethod y).before a0 Z = true) (w4 : (Jvm.Cond.instantiable y.cls kk).before a0 Z = true) (w5 : (Jvm.Cond.initialized y.cls).before a0 Z = true) (w6 : (Jvm.Cond.code y bytes maxL ret).before a0 Z = true) (hy : y.cls ≠ "java/lang/invoke/MethodHandle" ∧ y.cls ≠ "java/lang/invoke/VarHandle")
    {rm : Room} {Q' : Option Value → Heap → List Loc → Prop} {a : Addr} {argsL rest stk : List Value} {pc W : Nat} {Ls : Array Slot}
    (hM : MetFree l y (head1 [Jvm.Cond.code y bytes maxL ret] rm) (fun a' U => a' = (.ref a :: argsL).toArray ∧ Z.Warmed39 U.vm ∧ U.heap = h) (fun _ _ _ _ _ => True) (fun _ U o U' => ∃ v L, o = .returned v ∧ Q' v U'.heap L ∧ FrameEnd U o U' L rm.cells rm.slots))
    (eT : T.heap = h) (E : Exa Z h a C) (hsize : Ls.size = c.maxLocals) (hlen : ∀ sig, parseMethodDescriptor y.desc = some sig → argsL.length = sig.parameters.length) (hst : stk = argsL.reverse ++ .ref a :: rest) (hW : (rest.map fun v => v.category).sum ≤ W) (hd : decode c.code pc = .ok (.invokevirtual index, 3))
    (hf : rm.frames + 1 ≤ R.frames) (hl : W + (maxL + 11) + rm.locals ≤ R.locals) (hc : cells + rm.cells ≤ R.cells) (hs : slots + rm.slots ≤ R.slots)
    (k : ∀ (v : Option Value) (T' : State) (L : List Loc), Stand p l e R s m args below meth c T' (locs ++ L) (cells + rm.cells) (slots + rm.slots) → Q' v T'.heap L → Go p e below G kc ks Q T' (mkF m (pc + 3) Ls (v.toList ++ rest))) :
    Go p e below G kc ks Q T (mkF m pc Ls stk) := by
  subst hst
  obtain ⟨cq, q1, q2⟩ := E.cell
  obtain ⟨cK, kK, i1, i2, i3, i4, -⟩ := Cond.instantiable_spec (mvT (args := args) hZ w4)
  have hpriv := Cond.privateMethod_at (mvP (args := #[]) hZ w3)
  have hsel := selects_self_of_private (args := args) i1 i2 (by simpa using (Bool.or_eq_false_iff.mp i4).1) hpriv (mvT hZ w2) hy
  obtain ⟨v, _, ⟨T1, L1, k1, n1⟩, -, X1, ⟨Lc, hQ, l1, y1, z1⟩, st⟩ := X.privateBack hx (y := y) hown (mvT hZ w1) (mvT hZ w2) hsel hpriv (mvT hZ w6) hy (backOf (W := W) hM hZ w6 w5 hf hl) (g := mkF m pc Ls (argsL.reverse ++ .ref a :: rest)) rfl hsize (Steps.refl _) (a := a) (by rw [eT]; exact q1) q2 (argsL := argsL) (rest := rest) hlen rfl (by show 2 * 0 + _ ≤ _; omega) hd (fun _ _ => ⟨rfl, eT, hc, hs⟩)
  dsimp only [Pt.U, Pt.locs, Pt.cells, Pt.slots] at X1 l1 y1 z1 st hQ
  subst l1 y1 z1
  exact own_tr st (k v T1 Lc X1 hQ)
/-- all that lies below u stands as it stood -/
def own_Lo (h h' : Heap) (u : Addr) : Prop := h.size ≤ h'.size ∧ ∀ (x : Addr) (c : Cell), h[x]? = some c → x < u → h'[x]? = some c
section
variable {h h' h'' : Heap} {u a : Addr} {sl : Nat} {v : Value} {ws : List Addr}
theorem own_Lo.refl (h : Heap) (u : Addr) : own_Lo h h u := ⟨Nat.le_refl _, fun _ _ q _ => q⟩
theorem own_Lo.ext (F : own_Lo h h' u) (E : Ext h' h'') : own_Lo h h'' u := ⟨Nat.le_trans F.1 E.1, fun x c q r => E.2 _ _ (F.2 x c q r)⟩
theorem own_Lo.wr (F : own_Lo h h' u) (W : Wr h' h'' a sl v) (q : u ≤ a) : own_Lo h h'' u := by
  refine ⟨Nat.le_trans F.1 (Nat.le_of_eq W.size.symm), fun x c r z => ?_⟩
  obtain ⟨c', e1, -, -, -, e5, -⟩ := wr_at W (F.2 x c r z)
  rw [e1, e5 (fun y => by subst y; exact absurd z (Nat.not_lt.mpr q))]
theorem own_Lo.keep (F : own_Lo h h' u) (K : Keep h' h'' ws) (q : ∀ x ∈ ws, u ≤ x) : own_Lo h h'' u :=
  ⟨Nat.le_trans F.1 K.1, fun x c r z => K.2.1 x c (F.2 x c r z) (fun y => absurd z (Nat.not_lt.mpr (q x y)))⟩
theorem own_Lo.trans (F : own_Lo h h' u) (G : own_Lo h' h'' u) : own_Lo h h'' u := ⟨Nat.le_trans F.1 G.1, fun x c r z => G.2 x c (F.2 x c r z) z⟩
theorem own_A.lo {ty : FieldType} {n : Int32} {f : Nat → Value} (F : own_A Z h a ty n f) (G : own_Lo h h' u) (q : a < u) : own_A Z h' a ty n f := by obtain ⟨c, A, r⟩ := F; exact ⟨c, ⟨G.2 _ _ A.1 q, A.2⟩, r⟩
end
theorem own_skA {h h' : Heap} {a : Addr} {C n d : String} {v : Value} {ty : FieldType} {k : Int32} {f : Nat → Value} (F : Sta Z h C n d v) (K : Keep h h' [a]) (A : own_A Z h a ty k f) : Sta Z h' C n d v := by
  obtain ⟨cf, i, k, fl, st, cell, h1, h2, h3, h4, h5, h6, h7⟩ := F
  obtain ⟨cl, A, -⟩ := A
  have ne : st ≠ a := fun q => by
    subst q
    cases h5.symm.trans A.1
    rw [A.plain] at h6; cases h6
  exact ⟨cf, i, k, fl, st, cell, h1, h2, h3, h4, K.2.1 _ _ h5 (ninS ne nin0), h6, h7⟩
end OwnMore
section OwnCold
variable {p : Program} {l : Launch} {e : Env} {R : Room} {s : State} {m : MethodId} {args : Array Value} {below : List Frame} {meth : Method} {c : Code} {T T' : State} {locs : List Loc} {cells slots : Nat} {Z : State} {a0 : Array Value} {h : Heap} {kc ks : Nat} {Q : Option Value → Heap → List Loc → Prop} {G : own_K} {EL : List (String × Nat)} {vm0 : Vm} {k0 : Nat}
theorem own_metC {y : MethodName} {bytes : ByteArray} {maxL : Nat} {ret : Option FieldType} {ws : List Jvm.Cond} {rm : Room} {as' : Array Value} {Ls : Array Slot} {h0 : Heap} (hn : plainFor y = true) (hef : ∀ m : MethodId, entryFrame m as' maxL = mkF m 0 Ls [])
    (body : ∀ (p : Program) (e : Env) (s : State) (m : MethodId) (below : List Frame) (meth : Method) (c : Code) (s₁ : State), p.tables.exec = Jvm.exec → c.code = bytes → c.maxLocals = maxL → meth.sig.returnType = ret → meth.locks = false → Z.Warmed39 s.vm → s.vm.findClass y.cls = some m.cls → meth.name = y.name →
      Stand p l e rm (s.setVm s.vm) m as' below meth c s₁ [] 0 0 → s₁.heap = h0 → s.Since s.vm h0.size → CHr Z EL s.vm s.heap s.vm h0 → Go p e below (.cold Z EL s) rm.cells rm.slots Q s₁ (mkF m 0 Ls [])) :
    MetFree l y (head1 (Jvm.Cond.code y bytes maxL ret :: ws) rm) (fun a U => a = as' ∧ Z.Warmed39 U.vm ∧ U.heap = h0 ∧ CHv Z EL U.vm h0) (fun _ _ _ _ _ => True) (fun _ U o U' => ∃ v L, o = .returned v ∧ Q v U'.heap L ∧ CHr Z EL U.vm U.heap U'.vm U'.heap ∧ ReturnedEndW U o U' L rm.cells rm.slots) := by
  refine MetFree.of_bodySF hn hisR ?_
  intro p e s m args below meth c s₁ Bd hml0 hP hK
  obtain ⟨rfl, hZ, hh, hC⟩ := hP
  have hg := body p e s m below meth c s₁ Bd.exec Bd.bytes hml0 Bd.returns Bd.notSynchronized hZ (findClass_of_methodNamed Bd.named) (name_of_methodNamed Bd.named Bd.method).1 (Stand.of_body Bd) (by rw [← hh, Bd.state]; rfl)
    ⟨State.Warmed39.refl s, fun j q h1 h2 => absurd (Array.getElem?_eq_some_iff.mp h2).1 (Nat.not_lt.mpr h1)⟩ (by rw [hh]; exact CHr.refl hC)
  unfold Go at hg
  rw [← hef m] at hg
  exact hg
theorem own_retC (X : Stand p l e R (s.setVm vm0) m args below meth c T locs cells slots) (hx : p.tables.exec = Jvm.exec) (hlk : meth.locks = false) (hZ : Z.Warmed39 vm0) (hS : s.Since vm0 k0) (hk : k0 ≤ h.size) (hEL : EW Z a0 EL) (r : CHr Z EL s.vm s.heap vm0 h) (eT : T.heap = h) {pc : Nat} {Ls : Array Slot} {w : Value} {t : FieldType} {i : Instr} {rest : List Value} (hret : meth.sig.returnType = some t) (hn : narrow t w = w)
    (hi : (i = .ireturn ∧ (t = .int ∨ t = .boolean ∨ t = .byte ∨ t = .char ∨ t = .short) ∧ ∃ z, w = .int z) ∨ (i = .lreturn ∧ t = .long ∧ ∃ z, w = .long z) ∨ (i = .dreturn ∧ t = .double ∧ ∃ z, w = .double z) ∨ (i = .freturn ∧ t = .float ∧ ∃ z, w = .float z) ∨ (i = .areturn ∧ t.isReference = true ∧ w.isRef = true))
    (hd : decode c.code pc = .ok (i, 1)) (hc : cells ≤ kc) (hs : slots ≤ ks) (hq : Q (some w) T.heap locs) : Go p e below (.cold Z EL s) kc ks Q T (mkF m pc Ls (w :: rest)) := by
  subst eT
  have hC := r.trans (CHv.at X hZ hEL r.1)
  obtain ⟨fs, hr, hrun, hended, h1, h2, h3, h4⟩ := X.leaveW hS hk (v := some w) (fun h => by rw [hret] at h; cases h) hlk
  exact ⟨_, _, retOut X hx hret hn hi hd hr, hrun, hended, _, _, rfl, hq, hC, ⟨_, rfl⟩, h2, h3, h4.mono hc hs⟩
theorem own_retVC (X : Stand p l e R (s.setVm vm0) m args below meth c T locs cells slots) (hx : p.tables.exec = Jvm.exec) (hlk : meth.locks = false) (hZ : Z.Warmed39 vm0) (hS : s.Since vm0 k0) (hk : k0 ≤ h.size) (hEL : EW Z a0 EL) (r : CHr Z EL s.vm s.heap vm0 h) (eT : T.heap = h) {pc : Nat} {Ls : Array Slot} (hret : meth.sig.returnType = none)
    (hd : decode c.code pc = .ok (.return_, 1)) (hc : cells ≤ kc) (hs : slots ≤ ks) (hq : Q none T.heap locs) : Go p e below (.cold Z EL s) kc ks Q T (mkF m pc Ls []) := by
  subst eT
  have hC := r.trans (CHv.at X hZ hEL r.1)
  obtain ⟨fs, hr, hrun, hended, h1, h2, h3, h4⟩ := X.leaveW hS hk (v := none) (fun _ => rfl) hlk
  exact ⟨_, _, X.returnOut hx hret hd hr, hrun, hended, _, _, rfl, hq, hC, ⟨_, rfl⟩, h2, h3, h4.mono hc hs⟩
theorem own_callSC (X : Stand p l e R (s.setVm vm0) m args below meth c T locs cells slots) (hx : p.tables.exec = Jvm.exec) (hZ : Z.Warmed39 vm0) (hS : s.Since vm0 k0) (hk : k0 ≤ h.size) (hEL : EW Z a0 EL) (r : CHr Z EL s.vm s.heap vm0 h) {own : String} {index : Nat} {y : MethodName} {bytes : ByteArray} {maxL : Nat} {ret : Option FieldType} (hown : vm0.findClass own = some m.cls)
    (w1 : (Jvm.Cond.methodLink own index y).before a0 Z = true) (w2 : (Jvm.Cond.static y).before a0 Z = true) (w3 : (Jvm.Cond.initialized y.cls).before a0 Z = true) (w4 : (Jvm.Cond.code y bytes maxL ret).before a0 Z = true) (hy : y.cls ≠ "java/lang/invoke/MethodHandle" ∧ y.cls ≠ "java/lang/invoke/VarHandle")
    {rm : Room} {Q' : Option Value → Heap → List Loc → Prop} {argsL rest stk : List Value} {pc W : Nat} {Ls : Array Slot}
    (hM : MetFree l y (head1 [Jvm.Cond.code y bytes maxL ret] rm) (fun a U => a = argsL.toArray ∧ Z.Warmed39 U.vm ∧ U.heap = h ∧ CHv Z EL U.vm h) (fun _ _ _ _ _ => True) (fun _ U o U' => ∃ v L, o = .returned v ∧ Q' v U'.heap L ∧ CHr Z EL U.vm U.heap U'.vm U'.heap ∧ ReturnedEndW U o U' L rm.cells rm.slots))
    (eT : T.heap = h) (hsize : Ls.size = c.maxLocals) (hlen : ∀ sig, parseMethodDescriptor y.desc = some sig → argsL.length = sig.parameters.length) (hst : stk = argsL.reverse ++ rest) (hW : (rest.map fun v => v.category).sum ≤ W) (hd : decode c.code pc = .ok (.invokestatic index, 3))
    (hf : rm.frames + 1 ≤ R.frames) (hl : W + (maxL + 11) + rm.locals ≤ R.locals) (hc : cells + rm.cells ≤ R.cells) (hs : slots + rm.slots ≤ R.slots)
    (k : ∀ (v : Option Value) (T' : State) (L : List Loc) (vm1 : Vm), Stand p l e R (s.setVm vm1) m args below meth c T' (locs ++ L) (cells + rm.cells) (slots + rm.slots) → Q' v T'.heap L → Z.Warmed39 vm1 → vm1.findClass own = some m.cls → s.Since vm1 T'.heap.size → CHr Z EL vm0 h vm1 T'.heap → CHr Z EL s.vm s.heap vm1 T'.heap → Go p e below G kc ks Q T' (mkF m (pc + 3) Ls (v.toList ++ rest))) :
    Go p e below G kc ks Q T (mkF m pc Ls stk) := by
  subst hst
  obtain ⟨v, _, ⟨T1, L1, k1, n1⟩, -, X1, hS1, hgr, ⟨Lc, hQ, l1, y1, z1, hC⟩, st⟩ := callSS X hx (y := y) hown (mvT (s := s.setVm vm0) hZ w1) (mvT (s := s.setVm vm0) hZ w2) (mvT (s := s.setVm vm0) hZ w3) (mvT (s := s.setVm vm0) hZ w4) hy (backOfSH (W := W) hM hZ w4 w3 hf hl hEL r.1) (g := mkF m pc Ls (argsL.reverse ++ rest)) rfl hsize (argsL := argsL) (rest := rest) hlen rfl (by show 2 * 0 + _ ≤ _; omega) hd (fun _ _ => ⟨rfl, eT, hc, hs⟩)
  dsimp only [Pt.U, Pt.locs, Pt.cells, Pt.slots] at X1 l1 y1 z1 st hQ hC hS1 hgr
  subst l1 y1 z1
  subst eT
  exact own_tr st (k v T1 Lc T1.vm X1 hQ (State.Warmed39.trans (t := s.setVm vm0) hZ hS1.1) (by rw [hS1.1.alike.findClass]; exact hown) (hS.trans hS1 (Nat.le_trans hk hgr)) hC (r.trans hC))
theorem own_callNC (X : Stand p l e R (s.setVm vm0) m args below meth c T locs cells slots) (hx : p.tables.exec = Jvm.exec) (hZ : Z.Warmed39 vm0) (hS : s.Since vm0 k0) (hk : k0 ≤ h.size) (hEL : EW Z a0 EL) (r : CHr Z EL s.vm s.heap vm0 h) {own : String} {index : Nat} {y : MethodName} {bytes : ByteArray} {maxL : Nat} (hown : vm0.findClass own = some m.cls) (hy1 : y.name = "<init>")
    (w1 : (Jvm.Cond.methodLink own index y).before a0 Z = true) (w2 : (Jvm.Cond.instanceMethod y).before a0 Z = true) (w3 : (Jvm.Cond.initialized y.cls).before a0 Z = true) (w4 : (Jvm.Cond.code y bytes maxL none).before a0 Z = true) (hy : y.cls ≠ "java/lang/invoke/MethodHandle" ∧ y.cls ≠ "java/lang/invoke/VarHandle")
    {rm : Room} {Q' : Option Value → Heap → List Loc → Prop} {a : Addr} {argsL rest stk : List Value} {pc W : Nat} {Ls : Array Slot}
    (hM : MetFree l y (head1 [Jvm.Cond.code y bytes maxL none] rm) (fun a' U => a' = (.ref a :: argsL).toArray ∧ Z.Warmed39 U.vm ∧ U.heap = h ∧ CHv Z EL U.vm h) (fun _ _ _ _ _ => True) (fun _ U o U' => ∃ v L, o = .returned v ∧ Q' v U'.heap L ∧ CHr Z EL U.vm U.heap U'.vm U'.heap ∧ ReturnedEndW U o U' L rm.cells rm.slots))
    (eT : T.heap = h) (hsize : Ls.size = c.maxLocals) (hlen : ∀ sig, parseMethodDescriptor y.desc = some sig → argsL.length = sig.parameters.length) (hst : stk = argsL.reverse ++ .ref a :: rest) (hW : (rest.map fun v => v.category).sum ≤ W) (hd : decode c.code pc = .ok (.invokespecial index, 3))
    (hf : rm.frames + 1 ≤ R.frames) (hl : W + (maxL + 11) + rm.locals ≤ R.locals) (hc : cells + rm.cells ≤ R.cells) (hs : slots + rm.slots ≤ R.slots)
    (k : ∀ (v : Option Value) (T' : State) (L : List Loc) (vm1 : Vm), Stand p l e R (s.setVm vm1) m args below meth c T' (locs ++ L) (cells + rm.cells) (slots + rm.slots) → Q' v T'.heap L → Z.Warmed39 vm1 → vm1.findClass own = some m.cls → s.Since vm1 T'.heap.size → CHr Z EL vm0 h vm1 T'.heap → CHr Z EL s.vm s.heap vm1 T'.heap → Go p e below G kc ks Q T' (mkF m (pc + 3) Ls (v.toList ++ rest))) :
    Go p e below G kc ks Q T (mkF m pc Ls stk) := by
  subst hst
  obtain ⟨v, _, ⟨T1, L1, k1, n1⟩, -, X1, hS1, hgr, ⟨Lc, hQ, l1, y1, z1, hC⟩, st⟩ := X.specialBackS hx (y := y) hy1 hown (mvT (s := s.setVm vm0) hZ w1) (mvT (s := s.setVm vm0) hZ w2) (mvT (s := s.setVm vm0) hZ w4) hy (backOfSH (W := W) hM hZ w4 w3 hf hl hEL r.1) (g := mkF m pc Ls (argsL.reverse ++ .ref a :: rest)) rfl hsize (Steps.refl _) (a := a) (argsL := argsL) (rest := rest) hlen rfl (by show 2 * 0 + _ ≤ _; omega) hd (fun _ _ => ⟨rfl, eT, hc, hs⟩)
  dsimp only [Pt.U, Pt.locs, Pt.cells, Pt.slots] at X1 l1 y1 z1 st hQ hC hS1 hgr
  subst l1 y1 z1
  subst eT
  exact own_tr st (k v T1 Lc T1.vm X1 hQ (State.Warmed39.trans (t := s.setVm vm0) hZ hS1.1) (by rw [hS1.1.alike.findClass]; exact hown) (hS.trans hS1 (Nat.le_trans hk hgr)) hC (r.trans hC))
theorem own_callVC (X : Stand p l e R (s.setVm vm0) m args below meth c T locs cells slots) (hx : p.tables.exec = Jvm.exec) (hZ : Z.Warmed39 vm0) (hS : s.Since vm0 k0) (hk : k0 ≤ h.size) (hEL : EW Z a0 EL) (r : CHr Z EL s.vm s.heap vm0 h) {own C : String} {index : Nat} {y z : MethodName} {bytes : ByteArray} {maxL : Nat} {ret : Option FieldType} (hown : vm0.findClass own = some m.cls)
    (w1 : (Jvm.Cond.methodLink own index y).before a0 Z = true) (w2 : (Jvm.Cond.declares y).before a0 Z = true) (hnf : NotFace (s.setVm vm0) y) (w3 : (Jvm.Cond.selects C y z).before a0 Z = true) (w4 : (Jvm.Cond.instanceMethod z).before a0 Z = true) (w5 : (Jvm.Cond.initialized z.cls).before a0 Z = true) (w6 : (Jvm.Cond.code z bytes maxL ret).before a0 Z = true) (hy : y.cls ≠ "java/lang/invoke/MethodHandle" ∧ y.cls ≠ "java/lang/invoke/VarHandle")
    {rm : Room} {Q' : Option Value → Heap → List Loc → Prop} {a : Addr} {argsL rest stk : List Value} {pc W : Nat} {Ls : Array Slot}
    (hM : MetFree l z (head1 [Jvm.Cond.code z bytes maxL ret] rm) (fun a' U => a' = (.ref a :: argsL).toArray ∧ Z.Warmed39 U.vm ∧ U.heap = h ∧ CHv Z EL U.vm h) (fun _ _ _ _ _ => True) (fun _ U o U' => ∃ v L, o = .returned v ∧ Q' v U'.heap L ∧ CHr Z EL U.vm U.heap U'.vm U'.heap ∧ ReturnedEndW U o U' L rm.cells rm.slots))
    (eT : T.heap = h) (E : Exa Z h a C) (hsize : Ls.size = c.maxLocals) (hlen : ∀ sig, parseMethodDescriptor y.desc = some sig → argsL.length = sig.parameters.length) (hst : stk = argsL.reverse ++ .ref a :: rest) (hW : (rest.map fun v => v.category).sum ≤ W) (hd : decode c.code pc = .ok (.invokevirtual index, 3))
    (hf : rm.frames + 1 ≤ R.frames) (hl : W + (maxL + 11) + rm.locals ≤ R.locals) (hc : cells + rm.cells ≤ R.cells) (hs : slots + rm.slots ≤ R.slots)
    (k : ∀ (v : Option Value) (T' : State) (L : List Loc) (vm1 : Vm), Stand p l e R (s.setVm vm1) m args below meth c T' (locs ++ L) (cells + rm.cells) (slots + rm.slots) → Q' v T'.heap L → Z.Warmed39 vm1 → vm1.findClass own = some m.cls → s.Since vm1 T'.heap.size → CHr Z EL vm0 h vm1 T'.heap → CHr Z EL s.vm s.heap vm1 T'.heap → Go p e below G kc ks Q T' (mkF m (pc + 3) Ls (v.toList ++ rest))) :
    Go p e below G kc ks Q T (mkF m pc Ls stk) := by
  subst hst
  obtain ⟨cq, kq, qa, qb, qc⟩ := isOf (s := s.setVm vm0) hZ eT E
  obtain ⟨v, _, ⟨T1, L1, k1, n1⟩, -, X1, hS1, hgr, ⟨Lc, hQ, l1, y1, z1, hC⟩, st⟩ := X.virtualBackS hx (y := y) (z := z) hown (mvT (s := s.setVm vm0) hZ w1) (mvT (s := s.setVm vm0) hZ w2) hnf (mvT (s := s.setVm vm0) hZ w3) (mvT (s := s.setVm vm0) hZ w4) hy (backOfSH (W := W) hM hZ w6 w5 hf hl hEL r.1) qa qc (g := mkF m pc Ls (argsL.reverse ++ .ref a :: rest)) rfl hsize (Steps.refl _) (argsL := argsL) (rest := rest) hlen rfl (by show 2 * 0 + _ ≤ _; omega) hd (fun _ _ => ⟨rfl, eT, hc, hs⟩)
  dsimp only [Pt.U, Pt.locs, Pt.cells, Pt.slots] at X1 l1 y1 z1 st hQ hC hS1 hgr
  subst l1 y1 z1
  subst eT
  exact own_tr st (k v T1 Lc T1.vm X1 hQ (State.Warmed39.trans (t := s.setVm vm0) hZ hS1.1) (by rw [hS1.1.alike.findClass]; exact hown) (hS.trans hS1 (Nat.le_trans hk hgr)) hC (r.trans hC))
/-- ldc "" -/
theorem own_ldcE (X : Stand p l e R (s.setVm vm0) m args below meth c T locs cells slots) (hx : p.tables.exec = Jvm.exec) (hZ : Z.Warmed39 vm0) (hS : s.Since vm0 k0) (hk : k0 ≤ h.size) (hEL : EW Z a0 EL) (r : CHr Z EL s.vm s.heap vm0 h) {own : String} {index : Nat} (hown : vm0.findClass own = some m.cls) (w : (Jvm.Cond.stringLink own index "").before a0 Z = true) (wS : ∀ a ∈ Bundle.stringAtoms, a.before a0 Z = true) (hmem : (own, index) ∈ EL)
    (eT : T.heap = h) {pc : Nat} {Ls : Array Slot} {rest : List Value} (hd : decode c.code pc = .ok (.ldc index, 2)) (hc : cells + 2 ≤ R.cells) (hl : slots + 4 ≤ R.slots)
    (k : ∀ (T' : State) (h' : Heap) (vm1 : Vm) (a b : Addr), Stand p l e R (s.setVm vm1) m args below meth c T' locs (cells + 2) (slots + 4) → T'.heap = h' → Ext h h' → Z.Warmed39 vm1 → vm1.findClass own = some m.cls → s.Since vm1 h'.size → CHr Z EL vm0 h vm1 h' → CHr Z EL s.vm s.heap vm1 h' →
      Exa Z h' a "java/lang/String" → Fld Z h' a "java/lang/String" "coder" "B" (.int 0) → Fld Z h' a "java/lang/String" "value" "[B" (.ref b) → own_A Z h' b .byte 0 (fun _ => .int 0) → Lit (s.setVm vm1) own index a → (∀ x, Safe Z EL vm1 h' x → x ≠ a ∧ x ≠ b) → Go p e below G kc ks Q T' (mkF m (pc + 2) Ls (.ref a :: rest))) :
    Go p e below G kc ks Q T (mkF m pc Ls rest) := by
  obtain ⟨a, T', h', k1, b, kk, X', e', E', hS', hk', hZ', hown', x1, x2, x3, x4, -, -, hC, hL, hne, st⟩ := ldcCH X hx hZ hown w wS eT hS hk hEL hmem r.1 (vs := []) (z := 0) ⟨by simp, rfl⟩ (by decide) rfl (g := mkF m pc Ls rest) rfl hd (n := 0) (by decide) (by decide) hc hl
  obtain ⟨cl, A, -, A2, A3, A4, A5⟩ := x4
  refine own_st st (k T' h' T'.vm a b X' e' E' hZ' hown' ⟨hS'.1, fun j q h1 h2 => ?_⟩ hC (r.trans hC) x1 x2 x3 ⟨cl, A, A2, by decide, fun i hi => A4 i hi, fun i hi => A5 i hi⟩ hL hne)
  have := hS'.2 j q h1 h2
  exact ⟨this.1, Nat.lt_of_lt_of_le this.2 hk'⟩
theorem own_ldcA (X : Stand p l e R (s.setVm vm0) m args below meth c T locs cells slots) (hx : p.tables.exec = Jvm.exec) (hZ : Z.Warmed39 vm0) {own text : String} {index : Nat} (hown : vm0.findClass own = some m.cls) (w : (Jvm.Cond.stringLink own index text).before a0 Z = true) {a : Addr} (L : Lit (s.setVm vm0) own index a) {pc : Nat} {Ls : Array Slot} {rest : List Value} (hd : decode c.code pc = .ok (.ldc index, 2))
    (k : Go p e below G kc ks Q T (mkF m (pc + 2) Ls (.ref a :: rest))) : Go p e below G kc ks Q T (mkF m pc Ls rest) :=
  own_st (ldcAgain X hx hZ hown w L (g := mkF m pc Ls rest) rfl hd) k
theorem own_safeA {vm : Vm} {x : Addr} {ty : FieldType} {n : Int32} {f : Nat → Value} (hZ : Z.Warmed39 vm) (A : own_A Z h x ty n f) (ht : ty ≠ .byte) : Safe Z EL vm h x := by
  obtain ⟨cl, Ar, -⟩ := A
  exact Safe.arr hZ.alike Ar ht
/-- a String without an array is no booked one -/
theorem own_safeN {vm : Vm} {x : Addr} (hZ : Z.Warmed39 vm) (E : Exa Z h x "java/lang/String") (F : Fld Z h x "java/lang/String" "value" "[B" .null) : Safe Z EL vm h x := fun B => by
  obtain ⟨cell, k, e1, e2, e3, e4, e5⟩ := E
  obtain ⟨cell', cf, kf, i, f, f1, f2, f3, f4, f5, f6, f7⟩ := F
  cases e1.symm.trans f1
  obtain ⟨q, -, u, a, -, q, -, S, rfl | rfl⟩ := B
  · cases (show h[q.sa]? = some q.sC from S.ha).symm.trans e1
    obtain ⟨cS, ⟨⟨-, -, -, ⟨c1, k1, i1, g1, -⟩, -, -, -, v1, -⟩, -⟩, -⟩ := S
    obtain ⟨k3, g3, -⟩ := State.fieldFound?_setVm (s := Z) hZ.alike f2
    have e4 := (show (Wst Z vm h).fieldFound? "java/lang/String" "value" "[B" = _ from g3).symm.trans g1
    simp only [Option.some.injEq, Prod.mk.injEq] at e4
    rw [← e4.2.2.2, f7] at v1
    cases v1
  · cases (show h[q.sd]? = some q.SA from S.hd).symm.trans e1
    obtain ⟨cS, -, -, g, -⟩ := S
    have g : vm.findClass "[B" = some q.SA.cls := g
    rw [hZ.alike.findClass] at g
    obtain ⟨k1, q1, q2⟩ := Vm.findClass_spec g
    obtain ⟨k2, q3, q4⟩ := Vm.findClass_spec e2
    cases q1.symm.trans q3
    have := q2.symm.trans q4
    exact absurd this (by decide)
end OwnCold
def own_EL : List (String × Nat) := [("java/lang/String", 7)]
theorem own_ew {Z : State} {a0 : Array Value} (hw : ∀ d ∈ tables_1, d.before a0 Z = true) : EW Z a0 own_EL := (EW.cons (hw _ (List.mem_of_getElem? (i := 59) rfl)) (by simp) EW.nil)
theorem own_wS {Z : State} {a0 : Array Value} (hw : ∀ d ∈ tables_1, d.before a0 Z = true) : ∀ a ∈ Bundle.stringAtoms, a.before a0 Z = true := fun a ha => by
  simp only [Bundle.stringAtoms, List.mem_cons, List.not_mem_nil, or_false] at ha
  rcases ha with rfl | rfl | rfl | rfl | rfl | rfl | rfl
  · exact (hw _ (List.mem_of_getElem? (i := 7) rfl))
  · exact (hw _ (List.mem_of_getElem? (i := 6) rfl))
  · exact (hw _ (List.mem_of_getElem? (i := 23) rfl))
  · exact (hw _ (List.mem_of_getElem? (i := 33) rfl))
  · exact (hw _ (List.mem_of_getElem? (i := 31) rfl))
  · exact (hw _ (List.mem_of_getElem? (i := 60) rfl))
  · exact (hw _ (List.mem_of_getElem? (i := 61) rfl))
theorem own_add1 {i : Int32} (h0 : 0 ≤ i.toInt) (h1 : i.toInt < 1000000) : (i + 1).toInt = i.toInt + 1 ∧ (i + 1).toInt.toNat = i.toInt.toNat + 1 := by
  have q := c_iadd i 1
  have r := rng32 (i + 1)
  have k : (1 : Int32).toInt = 1 := rfl
  omega
theorem d6_0 : decode jdk_52_method_21_code 0 = .ok (.iconst 0, 1) := by decide +kernel
theorem d6_1 : decode jdk_52_method_21_code 1 = .ok (.istore 5, 2) := by decide +kernel
theorem d6_3 : decode jdk_52_method_21_code 3 = .ok (.iload 5, 2) := by decide +kernel
theorem d6_5 : decode jdk_52_method_21_code 5 = .ok (.iload 4, 2) := by decide +kernel
theorem d6_7 : decode jdk_52_method_21_code 7 = .ok (.if_icmp .ge 37, 3) := by decide +kernel
theorem d6_10 : decode jdk_52_method_21_code 10 = .ok (.aload_n 0, 1) := by decide +kernel
theorem d6_11 : decode jdk_52_method_21_code 11 = .ok (.iload_n 1, 1) := by decide +kernel
theorem d6_12 : decode jdk_52_method_21_code 12 = .ok (.caload, 1) := by decide +kernel
theorem d6_13 : decode jdk_52_method_21_code 13 = .ok (.istore 6, 2) := by decide +kernel
theorem d6_15 : decode jdk_52_method_21_code 15 = .ok (.iload 6, 2) := by decide +kernel
theorem d6_17 : decode jdk_52_method_21_code 17 = .ok (.sipush 255, 3) := by decide +kernel
theorem d6_20 : decode jdk_52_method_21_code 20 = .ok (.if_icmp .le 6, 3) := by decide +kernel
theorem d6_23 : decode jdk_52_method_21_code 23 = .ok (.iload 5, 2) := by decide +kernel
theorem d6_25 : decode jdk_52_method_21_code 25 = .ok (.ireturn, 1) := by decide +kernel
theorem d6_26 : decode jdk_52_method_21_code 26 = .ok (.aload_n 2, 1) := by decide +kernel
theorem d6_27 : decode jdk_52_method_21_code 27 = .ok (.iload_n 3, 1) := by decide +kernel
theorem d6_28 : decode jdk_52_method_21_code 28 = .ok (.iload 6, 2) := by decide +kernel
theorem d6_30 : decode jdk_52_method_21_code 30 = .ok (.i2b, 1) := by decide +kernel
theorem d6_31 : decode jdk_52_method_21_code 31 = .ok (.bastore, 1) := by decide +kernel
theorem d6_32 : decode jdk_52_method_21_code 32 = .ok (.iinc 1 1, 3) := by decide +kernel
theorem d6_35 : decode jdk_52_method_21_code 35 = .ok (.iinc 3 1, 3) := by decide +kernel
theorem d6_38 : decode jdk_52_method_21_code 38 = .ok (.iinc 5 1, 3) := by decide +kernel
theorem d6_41 : decode jdk_52_method_21_code 41 = .ok (.goto (-38), 3) := by decide +kernel
theorem d6_44 : decode jdk_52_method_21_code 44 = .ok (.iload 4, 2) := by decide +kernel
theorem d6_46 : decode jdk_52_method_21_code 46 = .ok (.ireturn, 1) := by decide +kernel
theorem pn_0 : plainName "java/lang/StringUTF16" = true := by first | (simp [plainName, overriddenIn]; done) | decide +kernel
theorem ef_cloop (m : MethodId) (va : Addr) (da : Addr) (q : Int32) : entryFrame m #[(.ref va), (.int (0 : Int32)), (.ref da), (.int (0 : Int32)), (.int q)] 7 = mkF m 0 #[.val (.ref va), .val (.int (0 : Int32)), .val (.ref da), .val (.int (0 : Int32)), .val (.int q), .unset, .unset] [] := by first | (simp [entryFrame, mkF, argsToLocals, Value.category, maxLocals]; done) | rfl
def Q_cloop (Z : State) (va : Addr) (da : Addr) (q : Int32) (cs : Nat → Int32) (g : Nat → Value) (h0 : Heap) (n0 : Nat) : Option Value → Heap → List Loc → Prop := fun v h L => (∃ (kk : Int32) (g' : Nat → Value), v = some (.int kk) ∧ 0 ≤ kk.toInt ∧ kk.toInt ≤ q.toInt ∧ (∀ i : Nat, (i : Int) < kk.toInt → (cs i).toInt ≤ 255) ∧ (kk.toInt < q.toInt → 255 < (cs kk.toInt.toNat).toInt) ∧ own_A Z h da .byte q g' ∧ ∀ i : Nat, (i : Int) < kk.toInt → g' i = .int (nar .byte ((cs i).toInt8.toInt32))) ∧ Fr n0 L ∧ Keep h0 h [da]
set_option maxRecDepth 65536 in
set_option maxHeartbeats 40000000 in
theorem rm_cloop (l : Launch) (Z : State) (a0 : Array Value) (hw : ∀ d ∈ tables_1, d.before a0 Z = true) (ws : List Jvm.Cond) (va : Addr) (da : Addr) (q : Int32) (cs : Nat → Int32) (g : Nat → Value) (h0 : Heap) (n0 : Nat) (Z0 : n0 ≤ h0.size) (VV : own_A Z h0 va .char q (fun i => Value.int (cs i))) (VD : own_A Z h0 da .byte q g) (hne : va ≠ da) (ge_da : n0 ≤ da) (hq : 0 ≤ q.toInt ∧ q.toInt ≤ 5) :
    MetFree l (⟨"java/lang/StringUTF16", "compress", "([CI[BII)I"⟩ : MethodName) (head1 (Jvm.Cond.code (⟨"java/lang/StringUTF16", "compress", "([CI[BII)I"⟩ : MethodName) jdk_52_method_21_code 7 (some .int) :: ws) ({ frames := 0, cells := 0, slots := 0, locals := 0 } : Room)) (fun aX U => aX = #[(.ref va), (.int (0 : Int32)), (.ref da), (.int (0 : Int32)), (.int q)] ∧ Z.Warmed39 U.vm ∧ U.heap = h0) (fun _ _ _ _ _ => True) (fun _ U o U' => ∃ v L, o = .returned v ∧ (Q_cloop Z va da q cs g h0 n0) v U'.heap L ∧ FrameEnd U o U' L ({ frames := 0, cells := 0, slots := 0, locals := 0 } : Room).cells ({ frames := 0, cells := 0, slots := 0, locals := 0 } : Room).slots) := by
  refine own_met (Q := (Q_cloop Z va da q cs g h0 n0)) (plainFor_of_name (x := (⟨"java/lang/StringUTF16", "compress", "([CI[BII)I"⟩ : MethodName)) pn_0) (fun m => ef_cloop m va da q) ?_
  intro p e s m below meth cD s₁ hx hby hml hret hlk hZ hown hnm X0 e0 hs0
  have hown : s.vm.findClass "java/lang/StringUTF16" = some m.cls := hown
  have N0 := Fr.nil n0
  refine own_st (fr' := (mkF m 1 #[.val (.ref va), .val (.int (0 : Int32)), .val (.ref da), .val (.int (0 : Int32)), .val (.int q), .unset, .unset] [(.int (0 : Int32))])) (fun t k => XS.iconst X0.here hx rfl (hb hby d6_0) k) ?_
  refine own_st (fr' := (mkF m 3 #[.val (.ref va), .val (.int (0 : Int32)), .val (.ref da), .val (.int (0 : Int32)), .val (.int q), .val (.int (0 : Int32)), .unset] [])) (fun t k => XS.istore X0.here hx rfl (hb hby d6_1) rfl  (l' := #[.val (.ref va), .val (.int (0 : Int32)), .val (.ref da), .val (.int (0 : Int32)), .val (.int q), .val (.int (0 : Int32)), .unset]) rfl k) ?_
  suffices LP1 : ∀ (k : Nat) (T : State) (hh : Heap) (LL : List Loc) (i : Int32) (s6 : Slot) (gg : Nat → Value), (Stand p l e ({ frames := 0, cells := 0, slots := 0, locals := 0 } : Room) s m #[(.ref va), (.int (0 : Int32)), (.ref da), (.int (0 : Int32)), (.int q)] below meth cD T LL 0 0) → (T.heap = hh) → (Fr n0 LL) → (s6 = .unset ∨ ∃ z : Int32, s6 = .val (.int z)) → (i.toInt + k = q.toInt) → (0 ≤ i.toInt) → (∀ j : Nat, (j : Int) < i.toInt → (cs j).toInt ≤ 255) → (own_A Z hh va .char q (fun i => Value.int (cs i))) → (own_A Z hh da .byte q gg) → (∀ j : Nat, (j : Int) < i.toInt → gg j = .int (nar .byte ((cs j).toInt8.toInt32))) → (Keep h0 hh [da]) → Go p e below (.plain s) ({ frames := 0, cells := 0, slots := 0, locals := 0 } : Room).cells ({ frames := 0, cells := 0, slots := 0, locals := 0 } : Room).slots (Q_cloop Z va da q cs g h0 n0) T (mkF m 3 #[.val (.ref va), .val (.int i), .val (.ref da), .val (.int i), .val (.int q), .val (.int i), s6] []) by
    exact LP1 q.toInt.toNat _ _ _ 0 _ g X0 e0 N0 (Or.inl rfl) (by show (0 : Int) + _ = _; omega) (by decide) (fun j hj => absurd hj (by show ¬ (j : Int) < 0; omega)) VV VD (fun j hj => absurd hj (by show ¬ (j : Int) < 0; omega)) (Keep.refl h0 [da])
  intro k
  induction k with
  | zero =>
    intro T hh LL i s6 gg X eT NL hs6 hk hi Hc VV VD Hg KK
    refine own_st (fr' := (mkF m 5 #[.val (.ref va), .val (.int i), .val (.ref da), .val (.int i), .val (.int q), .val (.int i), s6] [(.int i)])) (fun t k => XS.iload X.here hx rfl (hb hby d6_3) rfl  k) ?_
    refine own_st (fr' := (mkF m 7 #[.val (.ref va), .val (.int i), .val (.ref da), .val (.int i), .val (.int q), .val (.int i), s6] [(.int q), (.int i)])) (fun t k => XS.iload X.here hx rfl (hb hby d6_5) rfl  k) ?_
    refine own_st (fr' := (mkF m 44 #[.val (.ref va), .val (.int i), .val (.ref da), .val (.int i), .val (.int q), .val (.int i), s6] [])) (fun t k => XS.icmpYes X.here hx rfl (pc0 := 7) (pc' := 44) rfl (hb hby d6_7) rfl (own_flt (x := i) (y := q) (show ¬ i.toInt < q.toInt from by omega)).2.1 (by decide) (by decide) k) ?_
    refine own_st (fr' := (mkF m 46 #[.val (.ref va), .val (.int i), .val (.ref da), .val (.int i), .val (.int q), .val (.int i), s6] [(.int q)])) (fun t k => XS.iload X.here hx rfl (hb hby d6_44) rfl  k) ?_
    exact own_retI X hx hlk hret (hb hby d6_46) (by decide) (by decide) (by rw [eT]; exact ⟨⟨q, gg, rfl, by omega, by omega, fun j hj => Hc j (by omega), fun hj => absurd hj (by omega), VD, fun j hj => Hg j (by omega)⟩, NL, KK⟩)
  | succ k ih =>
    intro T hh LL i s6 gg X eT NL hs6 hk hi Hc VV VD Hg KK
    refine own_st (fr' := (mkF m 5 #[.val (.ref va), .val (.int i), .val (.ref da), .val (.int i), .val (.int q), .val (.int i), s6] [(.int i)])) (fun t k => XS.iload X.here hx rfl (hb hby d6_3) rfl  k) ?_
    refine own_st (fr' := (mkF m 7 #[.val (.ref va), .val (.int i), .val (.ref da), .val (.int i), .val (.int q), .val (.int i), s6] [(.int q), (.int i)])) (fun t k => XS.iload X.here hx rfl (hb hby d6_5) rfl  k) ?_
    refine own_st (fr' := (mkF m 10 #[.val (.ref va), .val (.int i), .val (.ref da), .val (.int i), .val (.int q), .val (.int i), s6] [])) (fun t k => XS.icmpNo X.here hx rfl (hb hby d6_7) rfl (own_tlt (x := i) (y := q) (show i.toInt < q.toInt from by omega)).2.1 k) ?_
    refine own_st (fr' := (mkF m 11 #[.val (.ref va), .val (.int i), .val (.ref da), .val (.int i), .val (.int q), .val (.int i), s6] [(.ref va)])) (fun t k => XS.aloadN X.here hx rfl (hb hby d6_10) rfl rfl k) ?_
    refine own_st (fr' := (mkF m 12 #[.val (.ref va), .val (.int i), .val (.ref da), .val (.int i), .val (.int q), .val (.int i), s6] [(.int i), (.ref va)])) (fun t k => XS.iloadN X.here hx rfl (hb hby d6_11) rfl  k) ?_
    refine own_caload (j := i) X hx hZ eT VV (by omega) (by omega) (v := (.int (cs i.toInt.toNat))) (rfl) (hb hby d6_12) ?_
    refine own_st (fr' := (mkF m 15 #[.val (.ref va), .val (.int i), .val (.ref da), .val (.int i), .val (.int q), .val (.int i), .val (.int (cs i.toInt.toNat))] [])) (fun t k => XS.istore X.here hx rfl (hb hby d6_13) rfl  (l' := #[.val (.ref va), .val (.int i), .val (.ref da), .val (.int i), .val (.int q), .val (.int i), .val (.int (cs i.toInt.toNat))]) (by rcases hs6 with rfl | ⟨_, rfl⟩ <;> rfl) k) ?_
    refine own_st (fr' := (mkF m 17 #[.val (.ref va), .val (.int i), .val (.ref da), .val (.int i), .val (.int q), .val (.int i), .val (.int (cs i.toInt.toNat))] [(.int (cs i.toInt.toNat))])) (fun t k => XS.iload X.here hx rfl (hb hby d6_15) rfl  k) ?_
    refine own_st (fr' := (mkF m 20 #[.val (.ref va), .val (.int i), .val (.ref da), .val (.int i), .val (.int q), .val (.int i), .val (.int (cs i.toInt.toNat))] [(.int (255 : Int32)), (.int (cs i.toInt.toNat))])) (fun t k => XS.sipush X.here hx rfl (hb hby d6_17) k) ?_
    by_cases hbig : 255 < (cs i.toInt.toNat).toInt
    · refine own_st (fr' := (mkF m 23 #[.val (.ref va), .val (.int i), .val (.ref da), .val (.int i), .val (.int q), .val (.int i), .val (.int (cs i.toInt.toNat))] [])) (fun t k => XS.icmpNo X.here hx rfl (hb hby d6_20) rfl (own_tlt (x := (255 : Int32)) (y := (cs i.toInt.toNat)) hbig).2.2.2 k) ?_
      refine own_st (fr' := (mkF m 25 #[.val (.ref va), .val (.int i), .val (.ref da), .val (.int i), .val (.int q), .val (.int i), .val (.int (cs i.toInt.toNat))] [(.int i)])) (fun t k => XS.iload X.here hx rfl (hb hby d6_23) rfl  k) ?_
      exact own_retI X hx hlk hret (hb hby d6_25) (by decide) (by decide) (by rw [eT]; exact ⟨⟨i, gg, rfl, hi, by omega, Hc, fun _ => hbig, VD, Hg⟩, NL, KK⟩)
    · refine own_st (fr' := (mkF m 26 #[.val (.ref va), .val (.int i), .val (.ref da), .val (.int i), .val (.int q), .val (.int i), .val (.int (cs i.toInt.toNat))] [])) (fun t k => XS.icmpYes X.here hx rfl (pc0 := 20) (pc' := 26) rfl (hb hby d6_20) rfl (own_flt (x := (255 : Int32)) (y := (cs i.toInt.toNat)) hbig).2.2.2 (by decide) (by decide) k) ?_
      refine own_st (fr' := (mkF m 27 #[.val (.ref va), .val (.int i), .val (.ref da), .val (.int i), .val (.int q), .val (.int i), .val (.int (cs i.toInt.toNat))] [(.ref da)])) (fun t k => XS.aloadN X.here hx rfl (hb hby d6_26) rfl rfl k) ?_
      refine own_st (fr' := (mkF m 28 #[.val (.ref va), .val (.int i), .val (.ref da), .val (.int i), .val (.int q), .val (.int i), .val (.int (cs i.toInt.toNat))] [(.int i), (.ref da)])) (fun t k => XS.iloadN X.here hx rfl (hb hby d6_27) rfl  k) ?_
      refine own_st (fr' := (mkF m 30 #[.val (.ref va), .val (.int i), .val (.ref da), .val (.int i), .val (.int q), .val (.int i), .val (.int (cs i.toInt.toNat))] [(.int (cs i.toInt.toNat)), (.int i), (.ref da)])) (fun t k => XS.iload X.here hx rfl (hb hby d6_28) rfl  k) ?_
      refine own_st (fr' := (mkF m 31 #[.val (.ref va), .val (.int i), .val (.ref da), .val (.int i), .val (.int q), .val (.int i), .val (.int (cs i.toInt.toNat))] [(.int ((cs i.toInt.toNat).toInt8.toInt32)), (.int i), (.ref da)])) (fun t k => XS.i2b X.here hx rfl (hb hby d6_30) rfl k) ?_
      have a1 := own_add1 (i := i) hi (by omega)
      refine own_bastore X hx hZ eT VD (by omega) (by omega) (hb hby d6_31) ?_
      intro T3 h3 X3 e3 W3 V3
      have N3 := Fr.snoc X3 NL ge_da
      refine own_st (fr' := (mkF m 35 #[.val (.ref va), .val (.int (i + (1 : Int32))), .val (.ref da), .val (.int i), .val (.int q), .val (.int i), .val (.int (cs i.toInt.toNat))] [])) (fun t k => XS.iinc X3.here hx rfl (hb hby d6_32) rfl (l' := #[.val (.ref va), .val (.int (i + (1 : Int32))), .val (.ref da), .val (.int i), .val (.int q), .val (.int i), .val (.int (cs i.toInt.toNat))]) rfl k) ?_
      refine own_st (fr' := (mkF m 38 #[.val (.ref va), .val (.int (i + (1 : Int32))), .val (.ref da), .val (.int (i + (1 : Int32))), .val (.int q), .val (.int i), .val (.int (cs i.toInt.toNat))] [])) (fun t k => XS.iinc X3.here hx rfl (hb hby d6_35) rfl (l' := #[.val (.ref va), .val (.int (i + (1 : Int32))), .val (.ref da), .val (.int (i + (1 : Int32))), .val (.int q), .val (.int i), .val (.int (cs i.toInt.toNat))]) rfl k) ?_
      refine own_st (fr' := (mkF m 41 #[.val (.ref va), .val (.int (i + (1 : Int32))), .val (.ref da), .val (.int (i + (1 : Int32))), .val (.int q), .val (.int (i + (1 : Int32))), .val (.int (cs i.toInt.toNat))] [])) (fun t k => XS.iinc X3.here hx rfl (hb hby d6_38) rfl (l' := #[.val (.ref va), .val (.int (i + (1 : Int32))), .val (.ref da), .val (.int (i + (1 : Int32))), .val (.int q), .val (.int (i + (1 : Int32))), .val (.int (cs i.toInt.toNat))]) rfl k) ?_
      refine own_st (fr' := (mkF m 3 #[.val (.ref va), .val (.int (i + (1 : Int32))), .val (.ref da), .val (.int (i + (1 : Int32))), .val (.int q), .val (.int (i + (1 : Int32))), .val (.int (cs i.toInt.toNat))] [])) (fun t k => XS.goto X3.here hx rfl (pc0 := 41) (pc' := 3) rfl (hb hby d6_41) (by decide) (by decide) k) ?_
      refine ih _ _ _ (i + 1) _ _ X3 e3 N3 (Or.inr ⟨_, rfl⟩) (by omega) (by omega) (fun j hj => ?_) (VV.other W3 hne) V3 (fun j hj => ?_) (Keep.wr KK W3 (Or.inl (List.mem_of_getElem? (i := 0) rfl)))
      · by_cases hj2 : (j : Int) < i.toInt
        · exact Hc j hj2
        · have e1 : j = i.toInt.toNat := by omega
          subst e1; omega
      · by_cases hj2 : (j : Int) < i.toInt
        · have e1 : ¬ j = i.toInt.toNat := by omega
          show (if j = i.toInt.toNat then _ else _) = _
          rw [if_neg e1]; exact Hg j hj2
        · have e1 : j = i.toInt.toNat := by omega
          show (if j = i.toInt.toNat then _ else _) = _
          rw [if_pos e1, e1]
theorem own_cfal (q nb : Int32) (hq : 0 ≤ q.toInt ∧ q.toInt ≤ 1000) (hnb : 0 ≤ nb.toInt ∧ nb.toInt ≤ 1000) : (nb.toInt ≤ q.toInt ∧ ((q - nb).toUInt32 >>> ((31 : Int32) &&& 31).toUInt32).toInt32.toInt8.toInt32 = 0) ∨ (q.toInt < nb.toInt ∧ ((q - nb).toUInt32 >>> ((31 : Int32) &&& 31).toUInt32).toInt32.toInt8.toInt32 = 1) := by
  have s1 := c_isub q nb
  have s2 := rng32 (q - nb)
  generalize q - nb = d at s1 s2
  have e1 : ((31 : Int32) &&& 31).toUInt32 = 31 := by decide
  rw [e1]
  have e2 : d.toUInt32 >>> 31 = if d.toInt < 0 then 1 else 0 := by
    have : ∀ x : BitVec 32, x >>> (31 : Nat) = if x.toInt < 0 then 1#32 else 0#32 := by
      intro x
      have h1 : x.toInt < 0 ↔ 2147483648 ≤ x.toNat := by rw [BitVec.toInt_eq_toNat_cond]; split <;> omega
      apply BitVec.eq_of_toNat_eq
      rw [BitVec.toNat_ushiftRight, Nat.shiftRight_eq_div_pow]
      split
      · have := x.isLt; simp; omega
      · simp; omega
    have h2 := this d.toBitVec
    apply UInt32.toBitVec_inj.mp
    show d.toBitVec >>> (31 : BitVec 32) = _
    have h3 : d.toBitVec >>> (31 : BitVec 32) = d.toBitVec >>> (31 : Nat) := rfl
    rw [h3, h2]
    show (if d.toInt < 0 then 1#32 else 0#32) = _
    split <;> rfl
  by_cases hd : d.toInt < 0
  · right; refine ⟨by omega, ?_⟩; rw [e2, if_pos hd]; decide
  · left; refine ⟨by omega, ?_⟩; rw [e2, if_neg hd]; decide
theorem d7_0 : decode jdk_52_method_15_code 0 = .ok (.iload_n 1, 1) := by decide +kernel
theorem d7_1 : decode jdk_52_method_15_code 1 = .ok (.aload_n 0, 1) := by decide +kernel
theorem d7_2 : decode jdk_52_method_15_code 2 = .ok (.arraylength, 1) := by decide +kernel
theorem d7_3 : decode jdk_52_method_15_code 3 = .ok (.isub, 1) := by decide +kernel
theorem d7_4 : decode jdk_52_method_15_code 4 = .ok (.bipush 31, 2) := by decide +kernel
theorem d7_6 : decode jdk_52_method_15_code 6 = .ok (.iushr, 1) := by decide +kernel
theorem d7_7 : decode jdk_52_method_15_code 7 = .ok (.i2b, 1) := by decide +kernel
theorem d7_8 : decode jdk_52_method_15_code 8 = .ok (.ireturn, 1) := by decide +kernel
theorem ef_cfal (m : MethodId) (da : Addr) (q : Int32) : entryFrame m #[(.ref da), (.int q)] 2 = mkF m 0 #[.val (.ref da), .val (.int q)] [] := by first | (simp [entryFrame, mkF, argsToLocals, Value.category, maxLocals]; done) | rfl
def Q_cfal (Z : State) (da : Addr) (q : Int32) (nb : Int32) (g : Nat → Value) (h0 : Heap) (n0 : Nat) : Option Value → Heap → List Loc → Prop := fun v h L => (∃ z : Int32, v = some (.int z) ∧ ((nb.toInt ≤ q.toInt ∧ z = 0) ∨ (q.toInt < nb.toInt ∧ z = 1))) ∧ Fr n0 L ∧ h = h0
set_option maxRecDepth 65536 in
set_option maxHeartbeats 40000000 in
theorem rm_cfal (l : Launch) (Z : State) (a0 : Array Value) (hw : ∀ d ∈ tables_1, d.before a0 Z = true) (ws : List Jvm.Cond) (da : Addr) (q : Int32) (nb : Int32) (g : Nat → Value) (h0 : Heap) (n0 : Nat) (Z0 : n0 ≤ h0.size) (VD : own_A Z h0 da .byte nb g) (hq : 0 ≤ q.toInt ∧ q.toInt ≤ 1000) (hnb : 0 ≤ nb.toInt ∧ nb.toInt ≤ 1000) :
    MetFree l (⟨"java/lang/StringUTF16", "coderFromArrayLen", "([BI)B"⟩ : MethodName) (head1 (Jvm.Cond.code (⟨"java/lang/StringUTF16", "coderFromArrayLen", "([BI)B"⟩ : MethodName) jdk_52_method_15_code 2 (some .byte) :: ws) ({ frames := 0, cells := 0, slots := 0, locals := 0 } : Room)) (fun aX U => aX = #[(.ref da), (.int q)] ∧ Z.Warmed39 U.vm ∧ U.heap = h0) (fun _ _ _ _ _ => True) (fun _ U o U' => ∃ v L, o = .returned v ∧ (Q_cfal Z da q nb g h0 n0) v U'.heap L ∧ FrameEnd U o U' L ({ frames := 0, cells := 0, slots := 0, locals := 0 } : Room).cells ({ frames := 0, cells := 0, slots := 0, locals := 0 } : Room).slots) := by
  refine own_met (Q := (Q_cfal Z da q nb g h0 n0)) (plainFor_of_name (x := (⟨"java/lang/StringUTF16", "coderFromArrayLen", "([BI)B"⟩ : MethodName)) pn_0) (fun m => ef_cfal m da q) ?_
  intro p e s m below meth cD s₁ hx hby hml hret hlk hZ hown hnm X0 e0 hs0
  have hown : s.vm.findClass "java/lang/StringUTF16" = some m.cls := hown
  have N0 := Fr.nil n0
  refine own_st (fr' := (mkF m 1 #[.val (.ref da), .val (.int q)] [(.int q)])) (fun t k => XS.iloadN X0.here hx rfl (hb hby d7_0) rfl  k) ?_
  refine own_st (fr' := (mkF m 2 #[.val (.ref da), .val (.int q)] [(.ref da), (.int q)])) (fun t k => XS.aloadN X0.here hx rfl (hb hby d7_1) rfl rfl k) ?_
  refine own_alen X0 hx hZ e0 VD (hb hby d7_2) ?_
  refine own_st (fr' := (mkF m 4 #[.val (.ref da), .val (.int q)] [(.int (q - nb))])) (fun t k => XS.isub X0.here hx rfl (hb hby d7_3) rfl k) ?_
  refine own_st (fr' := (mkF m 6 #[.val (.ref da), .val (.int q)] [(.int (31 : Int32)), (.int (q - nb))])) (fun t k => XS.bipush X0.here hx rfl (hb hby d7_4) k) ?_
  refine own_st (fr' := (mkF m 7 #[.val (.ref da), .val (.int q)] [(.int (((q - nb).toUInt32 >>> ((31 : Int32) &&& 31).toUInt32).toInt32))])) (fun t k => XS.iushr X0.here hx rfl (hb hby d7_6) rfl k) ?_
  refine own_st (fr' := (mkF m 8 #[.val (.ref da), .val (.int q)] [(.int ((((q - nb).toUInt32 >>> ((31 : Int32) &&& 31).toUInt32).toInt32).toInt8.toInt32))])) (fun t k => XS.i2b X0.here hx rfl (hb hby d7_7) rfl k) ?_
  exact own_ret X0 hx hlk hret (by rcases own_cfal q nb hq hnb with ⟨_, hz⟩ | ⟨_, hz⟩ <;> rw [hz] <;> rfl) (Or.inl ⟨rfl, by simp, _, rfl⟩) (hb hby d7_8) (by decide) (by decide) (⟨⟨_, rfl, own_cfal q nb hq hnb⟩, N0, e0⟩)
theorem pd_0 : parseMethodDescriptor "([CI[BII)I" = some ⟨[(.array .char), .int, (.array .byte), .int, .int], some .int⟩ := by decide +kernel
theorem d5_0 : decode jdk_52_method_16_code 0 = .ok (.iload_n 2, 1) := by decide +kernel
theorem d5_1 : decode jdk_52_method_16_code 1 = .ok (.newarray .byte, 2) := by decide +kernel
theorem d5_3 : decode jdk_52_method_16_code 3 = .ok (.astore_n 3, 1) := by decide +kernel
theorem d5_4 : decode jdk_52_method_16_code 4 = .ok (.aload_n 0, 1) := by decide +kernel
theorem d5_5 : decode jdk_52_method_16_code 5 = .ok (.iload_n 1, 1) := by decide +kernel
theorem d5_6 : decode jdk_52_method_16_code 6 = .ok (.aload_n 3, 1) := by decide +kernel
theorem d5_7 : decode jdk_52_method_16_code 7 = .ok (.iconst 0, 1) := by decide +kernel
theorem d5_8 : decode jdk_52_method_16_code 8 = .ok (.iload_n 2, 1) := by decide +kernel
theorem d5_9 : decode jdk_52_method_16_code 9 = .ok (.invokestatic 115, 3) := by decide +kernel
theorem d5_12 : decode jdk_52_method_16_code 12 = .ok (.istore 4, 2) := by decide +kernel
theorem d5_14 : decode jdk_52_method_16_code 14 = .ok (.iload 4, 2) := by decide +kernel
theorem d5_16 : decode jdk_52_method_16_code 16 = .ok (.iload_n 2, 1) := by decide +kernel
theorem d5_17 : decode jdk_52_method_16_code 17 = .ok (.if_icmp .eq 40, 3) := by decide +kernel
theorem d5_57 : decode jdk_52_method_16_code 57 = .ok (.aload_n 3, 1) := by decide +kernel
theorem d5_58 : decode jdk_52_method_16_code 58 = .ok (.areturn, 1) := by decide +kernel
theorem ef_compL (m : MethodId) (va : Addr) (q : Int32) : entryFrame m #[(.ref va), (.int (0 : Int32)), (.int q)] 6 = mkF m 0 #[.val (.ref va), .val (.int (0 : Int32)), .val (.int q), .unset, .unset, .unset] [] := by first | (simp [entryFrame, mkF, argsToLocals, Value.category, maxLocals]; done) | rfl
def Q_compL (Z : State) (va : Addr) (q : Int32) (cs : Nat → Int32) (h0 : Heap) (n0 : Nat) : Option Value → Heap → List Loc → Prop := fun v h L => (∃ (r : Addr) (g : Nat → Value), v = some (.ref r) ∧ h0.size ≤ r ∧ own_A Z h r .byte q g ∧ ∀ i : Nat, (i : Int) < q.toInt → g i = .int (nar .byte ((cs i).toInt8.toInt32))) ∧ Fr n0 L ∧ Keep h0 h []
set_option maxRecDepth 65536 in
set_option maxHeartbeats 40000000 in
theorem rm_compL (l : Launch) (Z : State) (a0 : Array Value) (hw : ∀ d ∈ tables_1, d.before a0 Z = true) (ws : List Jvm.Cond) (va : Addr) (q : Int32) (cs : Nat → Int32) (h0 : Heap) (n0 : Nat) (Z0 : n0 ≤ h0.size) (VV : own_A Z h0 va .char q (fun i => Value.int (cs i))) (hlat : ∀ i : Nat, (i : Int) < q.toInt → (cs i).toInt ≤ 255) (hq : 0 ≤ q.toInt ∧ q.toInt ≤ 5) :
    MetFree l (⟨"java/lang/StringUTF16", "compress", "([CII)[B"⟩ : MethodName) (head1 (Jvm.Cond.code (⟨"java/lang/StringUTF16", "compress", "([CII)[B"⟩ : MethodName) jdk_52_method_16_code 6 (some (.array .byte)) :: ws) ({ frames := 1, cells := 1, slots := 5, locals := 18 } : Room)) (fun aX U => aX = #[(.ref va), (.int (0 : Int32)), (.int q)] ∧ Z.Warmed39 U.vm ∧ U.heap = h0) (fun _ _ _ _ _ => True) (fun _ U o U' => ∃ v L, o = .returned v ∧ (Q_compL Z va q cs h0 n0) v U'.heap L ∧ FrameEnd U o U' L ({ frames := 1, cells := 1, slots := 5, locals := 18 } : Room).cells ({ frames := 1, cells := 1, slots := 5, locals := 18 } : Room).slots) := by
  refine own_met (Q := (Q_compL Z va q cs h0 n0)) (plainFor_of_name (x := (⟨"java/lang/StringUTF16", "compress", "([CII)[B"⟩ : MethodName)) pn_0) (fun m => ef_compL m va q) ?_
  intro p e s m below meth cD s₁ hx hby hml hret hlk hZ hown hnm X0 e0 hs0
  have hown : s.vm.findClass "java/lang/StringUTF16" = some m.cls := hown
  have N0 := Fr.nil n0
  refine own_st (fr' := (mkF m 1 #[.val (.ref va), .val (.int (0 : Int32)), .val (.int q), .unset, .unset, .unset] [(.int q)])) (fun t k => XS.iloadN X0.here hx rfl (hb hby d5_0) rfl  k) ?_
  refine own_newarrE X0 hx hZ (hw _ (List.mem_of_getElem? (i := 23) rfl)) e0 (hb hby d5_1) (hq.1) (cap := 5) (hq.2) (by decide) (by decide) (by decide) rfl (C := "[B") rfl ?_
  intro T4 h4 b4 g4 X4 e4 E4 VA4 EX4
  have V4 := own_B.new VA4
  have lt4_va : va < b4 := Nat.lt_of_lt_of_eq VV.lt g4.symm
  have ne4_va : va ≠ b4 := Nat.ne_of_lt lt4_va
  have ge_b4 : n0 ≤ b4 := Nat.le_trans Z0 (Nat.le_of_eq g4.symm)
  have sz_b4 : h0.size ≤ b4 := Nat.le_trans (Nat.le_refl _) (Nat.le_of_eq g4.symm)
  refine own_st (fr' := (mkF m 4 #[.val (.ref va), .val (.int (0 : Int32)), .val (.int q), .val (.ref b4), .unset, .unset] [])) (fun t k => XS.astoreN X4.here hx rfl (hb hby d5_3) rfl rfl (l' := #[.val (.ref va), .val (.int (0 : Int32)), .val (.int q), .val (.ref b4), .unset, .unset]) rfl k) ?_
  refine own_st (fr' := (mkF m 5 #[.val (.ref va), .val (.int (0 : Int32)), .val (.int q), .val (.ref b4), .unset, .unset] [(.ref va)])) (fun t k => XS.aloadN X4.here hx rfl (hb hby d5_4) rfl rfl k) ?_
  refine own_st (fr' := (mkF m 6 #[.val (.ref va), .val (.int (0 : Int32)), .val (.int q), .val (.ref b4), .unset, .unset] [(.int (0 : Int32)), (.ref va)])) (fun t k => XS.iloadN X4.here hx rfl (hb hby d5_5) rfl  k) ?_
  refine own_st (fr' := (mkF m 7 #[.val (.ref va), .val (.int (0 : Int32)), .val (.int q), .val (.ref b4), .unset, .unset] [(.ref b4), (.int (0 : Int32)), (.ref va)])) (fun t k => XS.aloadN X4.here hx rfl (hb hby d5_6) rfl rfl k) ?_
  refine own_st (fr' := (mkF m 8 #[.val (.ref va), .val (.int (0 : Int32)), .val (.int q), .val (.ref b4), .unset, .unset] [(.int (0 : Int32)), (.ref b4), (.int (0 : Int32)), (.ref va)])) (fun t k => XS.iconst X4.here hx rfl (hb hby d5_7) k) ?_
  refine own_st (fr' := (mkF m 9 #[.val (.ref va), .val (.int (0 : Int32)), .val (.int q), .val (.ref b4), .unset, .unset] [(.int q), (.int (0 : Int32)), (.ref b4), (.int (0 : Int32)), (.ref va)])) (fun t k => XS.iloadN X4.here hx rfl (hb hby d5_8) rfl  k) ?_
  refine own_callS X4 hx hZ (y := (⟨"java/lang/StringUTF16", "compress", "([CI[BII)I"⟩ : MethodName)) hown (hw _ (List.mem_of_getElem? (i := 24) rfl)) (hw _ (List.mem_of_getElem? (i := 25) rfl)) (hw _ (List.mem_of_getElem? (i := 21) rfl)) (hw _ (List.mem_of_getElem? (i := 26) rfl)) (by decide) (argsL := [(.ref va), (.int (0 : Int32)), (.ref b4), (.int (0 : Int32)), (.int q)]) (rest := []) (W := 0) (rm_cloop l Z a0 hw [] va b4 q cs _ h4 n0 (Nat.le_trans Z0 E4.1) (VV.ext E4) VA4 ne4_va ge_b4 hq) e4 (by rw [hml]; rfl) (lenOf pd_0 rfl) rfl (Nat.le_of_eq rfl) (hb hby d5_9) (by decide) (by decide) (by decide) (by decide) ?_
  intro v5 T5 L5 X5 hQ5
  obtain ⟨⟨kk, g, rfl, k1, k2, k3, k4, VR, Hg⟩, Nq5, K5⟩ := hQ5
  have N5 := Fr.app N0 Nq5
  have ek : kk.toInt = q.toInt := by
    by_cases hlt : kk.toInt < q.toInt
    · have u1 := k4 hlt
      have u2 := hlat kk.toInt.toNat (by omega)
      omega
    · omega
  refine own_st (fr' := (mkF m 14 #[.val (.ref va), .val (.int (0 : Int32)), .val (.int q), .val (.ref b4), .val (.int kk), .unset] [])) (fun t k => XS.istore X5.here hx rfl (hb hby d5_12) rfl  (l' := #[.val (.ref va), .val (.int (0 : Int32)), .val (.int q), .val (.ref b4), .val (.int kk), .unset]) rfl k) ?_
  refine own_st (fr' := (mkF m 16 #[.val (.ref va), .val (.int (0 : Int32)), .val (.int q), .val (.ref b4), .val (.int kk), .unset] [(.int kk)])) (fun t k => XS.iload X5.here hx rfl (hb hby d5_14) rfl  k) ?_
  refine own_st (fr' := (mkF m 17 #[.val (.ref va), .val (.int (0 : Int32)), .val (.int q), .val (.ref b4), .val (.int kk), .unset] [(.int q), (.int kk)])) (fun t k => XS.iloadN X5.here hx rfl (hb hby d5_16) rfl  k) ?_
  refine own_st (fr' := (mkF m 57 #[.val (.ref va), .val (.int (0 : Int32)), .val (.int q), .val (.ref b4), .val (.int kk), .unset] [])) (fun t k => XS.icmpYes X5.here hx rfl (pc0 := 17) (pc' := 57) rfl (hb hby d5_17) rfl (own_teq (x := kk) (y := q) (show kk.toInt = q.toInt from ek)).1 (by decide) (by decide) k) ?_
  refine own_st (fr' := (mkF m 58 #[.val (.ref va), .val (.int (0 : Int32)), .val (.int q), .val (.ref b4), .val (.int kk), .unset] [(.ref b4)])) (fun t k => XS.aloadN X5.here hx rfl (hb hby d5_57) rfl rfl k) ?_
  exact own_retA X5 hx hlk hret rfl rfl (hb hby d5_58) (by decide) (by decide) (⟨⟨b4, g, rfl, sz_b4, VR, fun i hi => Hg i (by omega)⟩, N5, (Keep.trans (Keep.ext (Keep.refl h0 []) E4) K5 (allS (Or.inr sz_b4) all0))⟩)
theorem pd_1 : parseMethodDescriptor "([CII)[B" = some ⟨[(.array .char), .int, .int], some (.array .byte)⟩ := by decide +kernel
theorem pd_2 : parseMethodDescriptor "([BI)B" = some ⟨[(.array .byte), .int], some .byte⟩ := by decide +kernel
theorem d3_0 : decode jdk_42_method_149_code 0 = .ok (.aload_n 0, 1) := by decide +kernel
theorem d3_1 : decode jdk_42_method_149_code 1 = .ok (.invokespecial 1, 3) := by decide +kernel
theorem d3_4 : decode jdk_42_method_149_code 4 = .ok (.iload_n 3, 1) := by decide +kernel
theorem d3_5 : decode jdk_42_method_149_code 5 = .ok (.ifCond .ne 22, 3) := by decide +kernel
theorem d3_27 : decode jdk_42_method_149_code 27 = .ok (.getstatic 38, 3) := by decide +kernel
theorem d3_30 : decode jdk_42_method_149_code 30 = .ok (.ifCond .eq 28, 3) := by decide +kernel
theorem d3_33 : decode jdk_42_method_149_code 33 = .ok (.aload_n 1, 1) := by decide +kernel
theorem d3_34 : decode jdk_42_method_149_code 34 = .ok (.iload_n 2, 1) := by decide +kernel
theorem d3_35 : decode jdk_42_method_149_code 35 = .ok (.iload_n 3, 1) := by decide +kernel
theorem d3_36 : decode jdk_42_method_149_code 36 = .ok (.invokestatic 177, 3) := by decide +kernel
theorem d3_39 : decode jdk_42_method_149_code 39 = .ok (.astore 5, 2) := by decide +kernel
theorem d3_41 : decode jdk_42_method_149_code 41 = .ok (.aload_n 0, 1) := by decide +kernel
theorem d3_42 : decode jdk_42_method_149_code 42 = .ok (.aload 5, 2) := by decide +kernel
theorem d3_44 : decode jdk_42_method_149_code 44 = .ok (.iload_n 3, 1) := by decide +kernel
theorem d3_45 : decode jdk_42_method_149_code 45 = .ok (.invokestatic 47, 3) := by decide +kernel
theorem d3_48 : decode jdk_42_method_149_code 48 = .ok (.putfield 15, 3) := by decide +kernel
theorem d3_51 : decode jdk_42_method_149_code 51 = .ok (.aload_n 0, 1) := by decide +kernel
theorem d3_52 : decode jdk_42_method_149_code 52 = .ok (.aload 5, 2) := by decide +kernel
theorem d3_54 : decode jdk_42_method_149_code 54 = .ok (.putfield 9, 3) := by decide +kernel
theorem d3_57 : decode jdk_42_method_149_code 57 = .ok (.return_, 1) := by decide +kernel
theorem pn_1 : plainName "java/lang/String" = true := by first | (simp [plainName, overriddenIn]; done) | decide +kernel
theorem ef_siL (m : MethodId) (va : Addr) (q : Int32) : entryFrame m #[(.ref x'), (.ref va), (.int (0 : Int32)), (.int q), .null] 6 = mkF m 0 #[.val (.ref x'), .val (.ref va), .val (.int (0 : Int32)), .val (.int q), .val .null, .unset] [] := by first | (simp [entryFrame, mkF, argsToLocals, Value.category, maxLocals]; done) | rfl
def Q_siL (Z : State) (x' : Addr) (va : Addr) (q : Int32) (cs : Nat → Int32) (cz : Int32) (h0 : Heap) (n0 : Nat) : Option Value → Heap → List Loc → Prop := fun v h L => (∃ (r : Addr) (g : Nat → Value), v = none ∧ h0.size ≤ r ∧ own_A Z h r .byte q g ∧ (∀ i : Nat, (i : Int) < q.toInt → g i = .int (nar .byte ((cs i).toInt8.toInt32))) ∧ Fld Z h x' "java/lang/String" "value" "[B" (.ref r) ∧ Fld Z h x' "java/lang/String" "coder" "B" (.int 0)) ∧ Fr n0 L ∧ Keep h0 h [x']
set_option maxRecDepth 65536 in
set_option maxHeartbeats 40000000 in
theorem rm_siL (l : Launch) (Z : State) (a0 : Array Value) (hw : ∀ d ∈ tables_1, d.before a0 Z = true) (ws : List Jvm.Cond) (x' : Addr) (va : Addr) (q : Int32) (cs : Nat → Int32) (cz : Int32) (h0 : Heap) (n0 : Nat) (Z0 : n0 ≤ h0.size) (E0 : Exa Z h0 x' "java/lang/String") (Fv0 : Fld Z h0 x' "java/lang/String" "value" "[B" .null) (Fc0 : Fld Z h0 x' "java/lang/String" "coder" "B" (.int 0)) (VV : own_A Z h0 va .char q (fun i => Value.int (cs i))) (hlat : ∀ i : Nat, (i : Int) < q.toInt → (cs i).toInt ≤ 255) (hq : 1 ≤ q.toInt ∧ q.toInt ≤ 5) (ge_x' : n0 ≤ x') (S_cs : Sta Z h0 "java/lang/String" "COMPACT_STRINGS" "Z" (.int cz)) (hcz : ¬ cz.toInt = 0) :
    MetFree l (⟨"java/lang/String", "<init>", "([CIILjava/lang/Void;)V"⟩ : MethodName) (head1 (Jvm.Cond.code (⟨"java/lang/String", "<init>", "([CIILjava/lang/Void;)V"⟩ : MethodName) jdk_42_method_149_code 6 none :: ws) ({ frames := 2, cells := 1, slots := 5, locals := 37 } : Room)) (fun aX U => aX = #[(.ref x'), (.ref va), (.int (0 : Int32)), (.int q), .null] ∧ Z.Warmed39 U.vm ∧ U.heap = h0) (fun _ _ _ _ _ => True) (fun _ U o U' => ∃ v L, o = .returned v ∧ (Q_siL Z x' va q cs cz h0 n0) v U'.heap L ∧ FrameEnd U o U' L ({ frames := 2, cells := 1, slots := 5, locals := 37 } : Room).cells ({ frames := 2, cells := 1, slots := 5, locals := 37 } : Room).slots) := by
  refine own_met (Q := (Q_siL Z x' va q cs cz h0 n0)) (plainFor_of_name (x := (⟨"java/lang/String", "<init>", "([CIILjava/lang/Void;)V"⟩ : MethodName)) pn_1) (fun m => ef_siL m va q) ?_
  intro p e s m below meth cD s₁ hx hby hml hret hlk hZ hown hnm X0 e0 hs0
  have hown : s.vm.findClass "java/lang/String" = some m.cls := hown
  have N0 := Fr.nil n0
  have hq5 : 0 ≤ q.toInt ∧ q.toInt ≤ 5 := ⟨by omega, hq.2⟩
  refine own_st (fr' := (mkF m 1 #[.val (.ref x'), .val (.ref va), .val (.int (0 : Int32)), .val (.int q), .val .null, .unset] [(.ref x')])) (fun t k => XS.aloadN X0.here hx rfl (hb hby d3_0) rfl rfl k) ?_
  obtain ⟨T6, X6, e6, st6⟩ := initO X0 hx hZ hown (hw _ (List.mem_of_getElem? (i := 15) rfl)) (hw _ (List.mem_of_getElem? (i := 16) rfl)) (hw _ (List.mem_of_getElem? (i := 17) rfl)) e0 (g := (mkF m 1 #[.val (.ref x'), .val (.ref va), .val (.int (0 : Int32)), .val (.int q), .val .null, .unset] [(.ref x')])) rfl (by rw [hml]; rfl) rfl (hb hby d3_1) (by decide) (W := 0) (by show 2 * 0 + _ ≤ _; exact Nat.le_of_eq rfl) (by decide)
  refine own_st (fr' := (mkF m 4 #[.val (.ref x'), .val (.ref va), .val (.int (0 : Int32)), .val (.int q), .val .null, .unset] [])) st6 ?_
  refine own_st (fr' := (mkF m 5 #[.val (.ref x'), .val (.ref va), .val (.int (0 : Int32)), .val (.int q), .val .null, .unset] [(.int q)])) (fun t k => XS.iloadN X6.here hx rfl (hb hby d3_4) rfl  k) ?_
  refine own_st (fr' := (mkF m 27 #[.val (.ref x'), .val (.ref va), .val (.int (0 : Int32)), .val (.int q), .val .null, .unset] [])) (fun t k => XS.ifYes X6.here hx rfl (pc0 := 5) (pc' := 27) rfl (hb hby d3_5) rfl ((if0 _ _).trans (own_feq (x := q) (y := (0 : Int32)) (show ¬ q.toInt = 0 from by omega)).2) (by decide) (by decide) k) ?_
  obtain ⟨T7, X7, e7, st7⟩ := getS2 X6 hx hZ hown (host := "") (Or.inl (hw _ (List.mem_of_getElem? (i := 18) rfl))) Via.refl e6 S_cs (g := (mkF m 27 #[.val (.ref x'), .val (.ref va), .val (.int (0 : Int32)), .val (.int q), .val .null, .unset] [])) rfl (hb hby d3_27)
  refine own_st (fr' := (mkF m 30 #[.val (.ref x'), .val (.ref va), .val (.int (0 : Int32)), .val (.int q), .val .null, .unset] [(.int cz)])) st7 ?_
  refine own_st (fr' := (mkF m 33 #[.val (.ref x'), .val (.ref va), .val (.int (0 : Int32)), .val (.int q), .val .null, .unset] [])) (fun t k => XS.ifNo X7.here hx rfl (hb hby d3_30) rfl ((if0 _ _).trans (own_feq (x := cz) (y := (0 : Int32)) (show ¬ cz.toInt = 0 from hcz)).1) k) ?_
  refine own_st (fr' := (mkF m 34 #[.val (.ref x'), .val (.ref va), .val (.int (0 : Int32)), .val (.int q), .val .null, .unset] [(.ref va)])) (fun t k => XS.aloadN X7.here hx rfl (hb hby d3_33) rfl rfl k) ?_
  refine own_st (fr' := (mkF m 35 #[.val (.ref x'), .val (.ref va), .val (.int (0 : Int32)), .val (.int q), .val .null, .unset] [(.int (0 : Int32)), (.ref va)])) (fun t k => XS.iloadN X7.here hx rfl (hb hby d3_34) rfl  k) ?_
  refine own_st (fr' := (mkF m 36 #[.val (.ref x'), .val (.ref va), .val (.int (0 : Int32)), .val (.int q), .val .null, .unset] [(.int q), (.int (0 : Int32)), (.ref va)])) (fun t k => XS.iloadN X7.here hx rfl (hb hby d3_35) rfl  k) ?_
  refine own_callS X7 hx hZ (y := (⟨"java/lang/StringUTF16", "compress", "([CII)[B"⟩ : MethodName)) hown (hw _ (List.mem_of_getElem? (i := 19) rfl)) (hw _ (List.mem_of_getElem? (i := 20) rfl)) (hw _ (List.mem_of_getElem? (i := 21) rfl)) (hw _ (List.mem_of_getElem? (i := 22) rfl)) (by decide) (argsL := [(.ref va), (.int (0 : Int32)), (.int q)]) (rest := []) (W := 0) (rm_compL l Z a0 hw [] va q cs h0 n0 Z0 VV hlat hq5) e7 (by rw [hml]; rfl) (lenOf pd_1 rfl) rfl (Nat.le_of_eq rfl) (hb hby d3_36) (by decide) (by decide) (by decide) (by decide) ?_
  intro v8 T8 L8 X8 hQ8
  obtain ⟨⟨r, g, rfl, hr, VR, Hg⟩, Nq8, K8⟩ := hQ8
  have N8 := Fr.app N0 Nq8
  have ltx : x' < r := Nat.lt_of_lt_of_le E0.lt hr
  have nex : r ≠ x' := Ne.symm (Nat.ne_of_lt ltx)
  refine own_st (fr' := (mkF m 41 #[.val (.ref x'), .val (.ref va), .val (.int (0 : Int32)), .val (.int q), .val .null, .val (.ref r)] [])) (fun t k => XS.astore X8.here hx rfl (hb hby d3_39) rfl rfl (l' := #[.val (.ref x'), .val (.ref va), .val (.int (0 : Int32)), .val (.int q), .val .null, .val (.ref r)]) rfl k) ?_
  refine own_st (fr' := (mkF m 42 #[.val (.ref x'), .val (.ref va), .val (.int (0 : Int32)), .val (.int q), .val .null, .val (.ref r)] [(.ref x')])) (fun t k => XS.aloadN X8.here hx rfl (hb hby d3_41) rfl rfl k) ?_
  refine own_st (fr' := (mkF m 44 #[.val (.ref x'), .val (.ref va), .val (.int (0 : Int32)), .val (.int q), .val .null, .val (.ref r)] [(.ref r), (.ref x')])) (fun t k => XS.aload X8.here hx rfl (hb hby d3_42) rfl rfl k) ?_
  refine own_st (fr' := (mkF m 45 #[.val (.ref x'), .val (.ref va), .val (.int (0 : Int32)), .val (.int q), .val .null, .val (.ref r)] [(.int q), (.ref r), (.ref x')])) (fun t k => XS.iloadN X8.here hx rfl (hb hby d3_44) rfl  k) ?_
  refine own_callS X8 hx hZ (y := (⟨"java/lang/StringUTF16", "coderFromArrayLen", "([BI)B"⟩ : MethodName)) hown (hw _ (List.mem_of_getElem? (i := 27) rfl)) (hw _ (List.mem_of_getElem? (i := 28) rfl)) (hw _ (List.mem_of_getElem? (i := 21) rfl)) (hw _ (List.mem_of_getElem? (i := 29) rfl)) (by decide) (argsL := [(.ref r), (.int q)]) (rest := [(.ref x')]) (W := 1) (rm_cfal l Z a0 hw [] r q q g T8.heap n0 (Nat.le_trans Z0 K8.1) VR ⟨hq5.1, by omega⟩ ⟨hq5.1, by omega⟩) rfl (by rw [hml]; rfl) (lenOf pd_2 rfl) rfl (Nat.le_of_eq rfl) (hb hby d3_45) (by decide) (by decide) (by decide) (by decide) ?_
  intro v9 T9 L9 X9 hQ9
  obtain ⟨⟨zc, rfl, hzc⟩, Nq9, eq9⟩ := hQ9
  have N9 := Fr.app N8 Nq9
  obtain rfl : zc = 0 := by
    rcases hzc with ⟨_, hz⟩ | ⟨hz, _⟩
    · exact hz
    · omega
  obtain ⟨T10, h10, X10, e10, W10, st10⟩ := putFN X9 hx hZ hown (hw _ (List.mem_of_getElem? (i := 30) rfl)) Via.refl eq9 (Fc0.keep K8 nin0) (E0.keep K8) (Or.inr ⟨(hw _ (List.mem_of_getElem? (i := 31) rfl)), rfl, hnm⟩) (hw _ (List.mem_of_getElem? (i := 6) rfl)) (ty := .byte) (v' := (.int (0 : Int32))) (by decide) (rfl) (rfl) (g := (mkF m 48 #[.val (.ref x'), .val (.ref va), .val (.int (0 : Int32)), .val (.int q), .val .null, .val (.ref r)] [(.int (0 : Int32)), (.ref x')])) rfl rfl (hb hby d3_48)
  have Fw10 := Fld.same W10 (Fc0.keep K8 nin0)
  have N10 := Fr.snoc X10 N9 ge_x'
  refine own_st (fr' := (mkF m 51 #[.val (.ref x'), .val (.ref va), .val (.int (0 : Int32)), .val (.int q), .val .null, .val (.ref r)] [])) st10 ?_
  refine own_st (fr' := (mkF m 52 #[.val (.ref x'), .val (.ref va), .val (.int (0 : Int32)), .val (.int q), .val .null, .val (.ref r)] [(.ref x')])) (fun t k => XS.aloadN X10.here hx rfl (hb hby d3_51) rfl rfl k) ?_
  refine own_st (fr' := (mkF m 54 #[.val (.ref x'), .val (.ref va), .val (.int (0 : Int32)), .val (.int q), .val .null, .val (.ref r)] [(.ref r), (.ref x')])) (fun t k => XS.aload X10.here hx rfl (hb hby d3_52) rfl rfl k) ?_
  obtain ⟨T11, h11, X11, e11, W11, st11⟩ := putF X10 hx hZ hown (host := "") (Or.inl (hw _ (List.mem_of_getElem? (i := 32) rfl))) Via.refl e10 (Fld.other W10 (Fv0.keep K8 nin0) (Or.inr (Jvm.RoadKit.slot_ne (C := "java/lang/String") (Or.inr (hw _ (List.mem_of_getElem? (i := 33) rfl))) (Or.inr (hw _ (List.mem_of_getElem? (i := 31) rfl))) (by decide) (t := (.array .byte)) (t' := .byte) (by decide) (by decide)))) (Exa.wr W10 (E0.keep K8)) (Or.inr ⟨(hw _ (List.mem_of_getElem? (i := 33) rfl)), rfl, hnm⟩) (hw _ (List.mem_of_getElem? (i := 6) rfl)) (ty := (.array .byte)) (by decide) (rfl) (rfl) (g := (mkF m 54 #[.val (.ref x'), .val (.ref va), .val (.int (0 : Int32)), .val (.int q), .val .null, .val (.ref r)] [(.ref r), (.ref x')])) rfl rfl (hb hby d3_54)
  have Fw11 := Fld.same W11 (Fld.other W10 (Fv0.keep K8 nin0) (Or.inr (Jvm.RoadKit.slot_ne (C := "java/lang/String") (Or.inr (hw _ (List.mem_of_getElem? (i := 33) rfl))) (Or.inr (hw _ (List.mem_of_getElem? (i := 31) rfl))) (by decide) (t := (.array .byte)) (t' := .byte) (by decide) (by decide))))
  have N11 := Fr.snoc X11 N10 ge_x'
  refine own_st (fr' := (mkF m 57 #[.val (.ref x'), .val (.ref va), .val (.int (0 : Int32)), .val (.int q), .val .null, .val (.ref r)] [])) st11 ?_
  exact own_retV X11 hx hlk hret (hb hby d3_57) (by decide) (by decide) (by rw [e11]; exact ⟨⟨r, g, rfl, hr, ((VR.other W10 nex).other W11 nex), Hg, Fw11, (Fld.other W11 Fw10 (Or.inr (Jvm.RoadKit.slot_ne (C := "java/lang/String") (Or.inr (hw _ (List.mem_of_getElem? (i := 31) rfl))) (Or.inr (hw _ (List.mem_of_getElem? (i := 33) rfl))) (by decide) (t := .byte) (t' := (.array .byte)) (by decide) (by decide))))⟩, N11, (Keep.wr (Keep.wr (Keep.trans (Keep.refl h0 [x']) K8 all0) W10 (Or.inl (List.mem_of_getElem? (i := 0) rfl))) W11 (Or.inl (List.mem_of_getElem? (i := 0) rfl)))⟩)
theorem pd_3 : parseMethodDescriptor "([CIILjava/lang/Void;)V" = some ⟨[(.array .char), .int, .int, (.object "java/lang/Void")], none⟩ := by decide +kernel
theorem d2_0 : decode jdk_42_method_3_code 0 = .ok (.aload_n 0, 1) := by decide +kernel
theorem d2_1 : decode jdk_42_method_3_code 1 = .ok (.aload_n 1, 1) := by decide +kernel
theorem d2_2 : decode jdk_42_method_3_code 2 = .ok (.iconst 0, 1) := by decide +kernel
theorem d2_3 : decode jdk_42_method_3_code 3 = .ok (.aload_n 1, 1) := by decide +kernel
theorem d2_4 : decode jdk_42_method_3_code 4 = .ok (.arraylength, 1) := by decide +kernel
theorem d2_5 : decode jdk_42_method_3_code 5 = .ok (.aconst_null, 1) := by decide +kernel
theorem d2_6 : decode jdk_42_method_3_code 6 = .ok (.invokespecial 27, 3) := by decide +kernel
theorem d2_9 : decode jdk_42_method_3_code 9 = .ok (.return_, 1) := by decide +kernel
theorem ef_scL (m : MethodId) (va : Addr) : entryFrame m #[(.ref x'), (.ref va)] 2 = mkF m 0 #[.val (.ref x'), .val (.ref va)] [] := by first | (simp [entryFrame, mkF, argsToLocals, Value.category, maxLocals]; done) | rfl
def Q_scL (Z : State) (x' : Addr) (va : Addr) (q : Int32) (cs : Nat → Int32) (cz : Int32) (h0 : Heap) (n0 : Nat) : Option Value → Heap → List Loc → Prop := fun v h L => (∃ (r : Addr) (g : Nat → Value), v = none ∧ h0.size ≤ r ∧ own_A Z h r .byte q g ∧ (∀ i : Nat, (i : Int) < q.toInt → g i = .int (nar .byte ((cs i).toInt8.toInt32))) ∧ Fld Z h x' "java/lang/String" "value" "[B" (.ref r) ∧ Fld Z h x' "java/lang/String" "coder" "B" (.int 0)) ∧ Fr n0 L ∧ Keep h0 h [x']
set_option maxRecDepth 65536 in
set_option maxHeartbeats 40000000 in
theorem rm_scL (l : Launch) (Z : State) (a0 : Array Value) (hw : ∀ d ∈ tables_1, d.before a0 Z = true) (ws : List Jvm.Cond) (x' : Addr) (va : Addr) (q : Int32) (cs : Nat → Int32) (cz : Int32) (h0 : Heap) (n0 : Nat) (Z0 : n0 ≤ h0.size) (E0 : Exa Z h0 x' "java/lang/String") (Fv0 : Fld Z h0 x' "java/lang/String" "value" "[B" .null) (Fc0 : Fld Z h0 x' "java/lang/String" "coder" "B" (.int 0)) (VV : own_A Z h0 va .char q (fun i => Value.int (cs i))) (hlat : ∀ i : Nat, (i : Int) < q.toInt → (cs i).toInt ≤ 255) (hq : 1 ≤ q.toInt ∧ q.toInt ≤ 5) (ge_x' : n0 ≤ x') (S_cs : Sta Z h0 "java/lang/String" "COMPACT_STRINGS" "Z" (.int cz)) (hcz : ¬ cz.toInt = 0) :
    MetFree l (⟨"java/lang/String", "<init>", "([C)V"⟩ : MethodName) (head1 (Jvm.Cond.code (⟨"java/lang/String", "<init>", "([C)V"⟩ : MethodName) jdk_42_method_3_code 2 none :: ws) ({ frames := 3, cells := 1, slots := 5, locals := 54 } : Room)) (fun aX U => aX = #[(.ref x'), (.ref va)] ∧ Z.Warmed39 U.vm ∧ U.heap = h0) (fun _ _ _ _ _ => True) (fun _ U o U' => ∃ v L, o = .returned v ∧ (Q_scL Z x' va q cs cz h0 n0) v U'.heap L ∧ FrameEnd U o U' L ({ frames := 3, cells := 1, slots := 5, locals := 54 } : Room).cells ({ frames := 3, cells := 1, slots := 5, locals := 54 } : Room).slots) := by
  refine own_met (Q := (Q_scL Z x' va q cs cz h0 n0)) (plainFor_of_name (x := (⟨"java/lang/String", "<init>", "([C)V"⟩ : MethodName)) pn_1) (fun m => ef_scL m va) ?_
  intro p e s m below meth cD s₁ hx hby hml hret hlk hZ hown hnm X0 e0 hs0
  have hown : s.vm.findClass "java/lang/String" = some m.cls := hown
  have N0 := Fr.nil n0
  refine own_st (fr' := (mkF m 1 #[.val (.ref x'), .val (.ref va)] [(.ref x')])) (fun t k => XS.aloadN X0.here hx rfl (hb hby d2_0) rfl rfl k) ?_
  refine own_st (fr' := (mkF m 2 #[.val (.ref x'), .val (.ref va)] [(.ref va), (.ref x')])) (fun t k => XS.aloadN X0.here hx rfl (hb hby d2_1) rfl rfl k) ?_
  refine own_st (fr' := (mkF m 3 #[.val (.ref x'), .val (.ref va)] [(.int (0 : Int32)), (.ref va), (.ref x')])) (fun t k => XS.iconst X0.here hx rfl (hb hby d2_2) k) ?_
  refine own_st (fr' := (mkF m 4 #[.val (.ref x'), .val (.ref va)] [(.ref va), (.int (0 : Int32)), (.ref va), (.ref x')])) (fun t k => XS.aloadN X0.here hx rfl (hb hby d2_3) rfl rfl k) ?_
  refine own_alen X0 hx hZ e0 VV (hb hby d2_4) ?_
  refine own_st (fr' := (mkF m 6 #[.val (.ref x'), .val (.ref va)] [.null, (.int q), (.int (0 : Int32)), (.ref va), (.ref x')])) (fun t k => XS.aconstNull X0.here hx rfl (hb hby d2_5) k) ?_
  refine own_callN X0 hx hZ (y := (⟨"java/lang/String", "<init>", "([CIILjava/lang/Void;)V"⟩ : MethodName)) hown rfl (hw _ (List.mem_of_getElem? (i := 11) rfl)) (hw _ (List.mem_of_getElem? (i := 12) rfl)) (hw _ (List.mem_of_getElem? (i := 7) rfl)) (hw _ (List.mem_of_getElem? (i := 14) rfl)) (by decide) (a := x') (argsL := [(.ref va), (.int (0 : Int32)), (.int q), .null]) (rest := []) (W := 0) (rm_siL l Z a0 hw [] x' va q cs cz h0 n0 Z0 E0 Fv0 Fc0 VV hlat hq ge_x' S_cs hcz) e0 (by rw [hml]; rfl) (lenOf pd_3 rfl) rfl (Nat.le_of_eq rfl) (hb hby d2_6) (by decide) (by decide) (by decide) (by decide) ?_
  intro v12 T12 L12 X12 hQ12
  obtain ⟨⟨r, g, rfl, hr, VR, Hg, G1, G2⟩, Nq12, K12⟩ := hQ12
  have N12 := Fr.app N0 Nq12
  exact own_retV X12 hx hlk hret (hb hby d2_9) (by decide) (by decide) (⟨⟨r, g, rfl, hr, VR, Hg, G1, G2⟩, N12, K12⟩)
theorem d3_8 : decode jdk_42_method_149_code 8 = .ok (.aload_n 0, 1) := by decide +kernel
theorem d3_9 : decode jdk_42_method_149_code 9 = .ok (.ldc 7, 2) := by decide +kernel
theorem d3_11 : decode jdk_42_method_149_code 11 = .ok (.getfield 9, 3) := by decide +kernel
theorem d3_14 : decode jdk_42_method_149_code 14 = .ok (.putfield 9, 3) := by decide +kernel
theorem d3_17 : decode jdk_42_method_149_code 17 = .ok (.aload_n 0, 1) := by decide +kernel
theorem d3_18 : decode jdk_42_method_149_code 18 = .ok (.ldc 7, 2) := by decide +kernel
theorem d3_20 : decode jdk_42_method_149_code 20 = .ok (.getfield 15, 3) := by decide +kernel
theorem d3_23 : decode jdk_42_method_149_code 23 = .ok (.putfield 15, 3) := by decide +kernel
theorem d3_26 : decode jdk_42_method_149_code 26 = .ok (.return_, 1) := by decide +kernel
theorem ef_siE (m : MethodId) (va : Addr) : entryFrame m #[(.ref x'), (.ref va), (.int (0 : Int32)), (.int (0 : Int32)), .null] 6 = mkF m 0 #[.val (.ref x'), .val (.ref va), .val (.int (0 : Int32)), .val (.int (0 : Int32)), .val .null, .unset] [] := by first | (simp [entryFrame, mkF, argsToLocals, Value.category, maxLocals]; done) | rfl
def Q_siE (Z : State) (x' : Addr) (va : Addr) (h0 : Heap) (n0 : Nat) : Option Value → Heap → List Loc → Prop := fun v h L => (∃ b : Addr, v = none ∧ own_A Z h b .byte 0 (fun _ => .int 0) ∧ Fld Z h x' "java/lang/String" "value" "[B" (.ref b) ∧ Fld Z h x' "java/lang/String" "coder" "B" (.int 0)) ∧ Fr n0 L ∧ Keep h0 h [x']
set_option maxRecDepth 65536 in
set_option maxHeartbeats 40000000 in
theorem rm_siE (l : Launch) (Z : State) (a0 : Array Value) (hw : ∀ d ∈ tables_1, d.before a0 Z = true) (ws : List Jvm.Cond) (x' : Addr) (va : Addr) (h0 : Heap) (n0 : Nat) (Z0 : n0 ≤ h0.size) (E0 : Exa Z h0 x' "java/lang/String") (Fv0 : Fld Z h0 x' "java/lang/String" "value" "[B" .null) (Fc0 : Fld Z h0 x' "java/lang/String" "coder" "B" (.int 0)) (ge_x' : n0 ≤ x') :
    MetFree l (⟨"java/lang/String", "<init>", "([CIILjava/lang/Void;)V"⟩ : MethodName) (head1 (Jvm.Cond.code (⟨"java/lang/String", "<init>", "([CIILjava/lang/Void;)V"⟩ : MethodName) jdk_42_method_149_code 6 none :: ws) ({ frames := 1, cells := 2, slots := 4, locals := 12 } : Room)) (fun aX U => aX = #[(.ref x'), (.ref va), (.int (0 : Int32)), (.int (0 : Int32)), .null] ∧ Z.Warmed39 U.vm ∧ U.heap = h0 ∧ CHv Z own_EL U.vm h0) (fun _ _ _ _ _ => True) (fun _ U o U' => ∃ v L, o = .returned v ∧ (Q_siE Z x' va h0 n0) v U'.heap L ∧ CHr Z own_EL U.vm U.heap U'.vm U'.heap ∧ ReturnedEndW U o U' L ({ frames := 1, cells := 2, slots := 4, locals := 12 } : Room).cells ({ frames := 1, cells := 2, slots := 4, locals := 12 } : Room).slots) := by
  refine own_metC (Q := (Q_siE Z x' va h0 n0)) (plainFor_of_name (x := (⟨"java/lang/String", "<init>", "([CIILjava/lang/Void;)V"⟩ : MethodName)) pn_1) (fun m => ef_siE m va) ?_
  intro p e s m below meth cD s₁ hx hby hml hret hlk hZ hown hnm X0 e0 hS r0
  have hown : s.vm.findClass "java/lang/String" = some m.cls := hown
  have N0 := Fr.nil n0
  have sf0 := own_safeN hZ E0 Fv0 (EL := own_EL)
  refine own_st (fr' := (mkF m 1 #[.val (.ref x'), .val (.ref va), .val (.int (0 : Int32)), .val (.int (0 : Int32)), .val .null, .unset] [(.ref x')])) (fun t k => XS.aloadN X0.here hx rfl (hb hby d3_0) rfl rfl k) ?_
  obtain ⟨T13, X13, e13, st13⟩ := initO X0 hx hZ hown (hw _ (List.mem_of_getElem? (i := 15) rfl)) (hw _ (List.mem_of_getElem? (i := 16) rfl)) (hw _ (List.mem_of_getElem? (i := 17) rfl)) e0 (g := (mkF m 1 #[.val (.ref x'), .val (.ref va), .val (.int (0 : Int32)), .val (.int (0 : Int32)), .val .null, .unset] [(.ref x')])) rfl (by rw [hml]; rfl) rfl (hb hby d3_1) (by decide) (W := 0) (by show 2 * 0 + _ ≤ _; exact Nat.le_of_eq rfl) (by decide)
  refine own_st (fr' := (mkF m 4 #[.val (.ref x'), .val (.ref va), .val (.int (0 : Int32)), .val (.int (0 : Int32)), .val .null, .unset] [])) st13 ?_
  refine own_st (fr' := (mkF m 5 #[.val (.ref x'), .val (.ref va), .val (.int (0 : Int32)), .val (.int (0 : Int32)), .val .null, .unset] [(.int (0 : Int32))])) (fun t k => XS.iloadN X13.here hx rfl (hb hby d3_4) rfl  k) ?_
  refine own_st (fr' := (mkF m 8 #[.val (.ref x'), .val (.ref va), .val (.int (0 : Int32)), .val (.int (0 : Int32)), .val .null, .unset] [])) (fun t k => XS.ifNo X13.here hx rfl (hb hby d3_5) rfl ((if0 _ _).trans (own_teq (x := (0 : Int32)) (y := (0 : Int32)) (show 0 = 0 from rfl)).2) k) ?_
  refine own_st (fr' := (mkF m 9 #[.val (.ref x'), .val (.ref va), .val (.int (0 : Int32)), .val (.int (0 : Int32)), .val .null, .unset] [(.ref x')])) (fun t k => XS.aloadN X13.here hx rfl (hb hby d3_8) rfl rfl k) ?_
  refine own_ldcE X13 hx hZ hS (Nat.le_refl _) (own_ew hw) r0 hown (hw _ (List.mem_of_getElem? (i := 59) rfl)) (own_wS hw) (by decide) e13 (hb hby d3_9) (by decide) (by decide) ?_
  intro T14 h14 vm14 la14 lb14 X14 e14 E14 hZ hown hS rc14 r14 Ea14 Fc14 Fv14 V14 Lt14 ne14
  have sf14_x' := CHr.safe rc14 E0.lt sf0
  obtain ⟨T15, X15, e15, st15⟩ := getF X14 hx hZ hown (host := "") (Or.inl (hw _ (List.mem_of_getElem? (i := 32) rfl))) Via.refl e14 Fv14 (g := (mkF m 11 #[.val (.ref x'), .val (.ref va), .val (.int (0 : Int32)), .val (.int (0 : Int32)), .val .null, .unset] [(.ref la14), (.ref x')])) rfl rfl (hb hby d3_11)
  refine own_st (fr' := (mkF m 14 #[.val (.ref x'), .val (.ref va), .val (.int (0 : Int32)), .val (.int (0 : Int32)), .val .null, .unset] [(.ref lb14), (.ref x')])) st15 ?_
  obtain ⟨T16, h16, X16, e16, W16, st16⟩ := putF X15 hx hZ hown (host := "") (Or.inl (hw _ (List.mem_of_getElem? (i := 32) rfl))) Via.refl e15 (Fv0.ext E14) (E0.ext E14) (Or.inr ⟨(hw _ (List.mem_of_getElem? (i := 33) rfl)), rfl, hnm⟩) (hw _ (List.mem_of_getElem? (i := 6) rfl)) (ty := (.array .byte)) (by decide) (rfl) (rfl) (g := (mkF m 14 #[.val (.ref x'), .val (.ref va), .val (.int (0 : Int32)), .val (.int (0 : Int32)), .val .null, .unset] [(.ref lb14), (.ref x')])) rfl rfl (hb hby d3_14)
  have Fw16 := Fld.same W16 (Fv0.ext E14)
  have N16 := Fr.snoc X16 N0 ge_x'
  have r17 := CHr.trans r14 (CHr.wr W16 sf14_x' r14.1)
  have sf17_x' := Safe.wr W16 sf14_x' r14.1 sf14_x'
  refine own_st (fr' := (mkF m 17 #[.val (.ref x'), .val (.ref va), .val (.int (0 : Int32)), .val (.int (0 : Int32)), .val .null, .unset] [])) st16 ?_
  refine own_st (fr' := (mkF m 18 #[.val (.ref x'), .val (.ref va), .val (.int (0 : Int32)), .val (.int (0 : Int32)), .val .null, .unset] [(.ref x')])) (fun t k => XS.aloadN X16.here hx rfl (hb hby d3_17) rfl rfl k) ?_
  refine own_ldcA X16 hx hZ hown (hw _ (List.mem_of_getElem? (i := 59) rfl)) Lt14 (hb hby d3_18) ?_
  obtain ⟨T18, X18, e18, st18⟩ := getF X16 hx hZ hown (host := "") (Or.inl (hw _ (List.mem_of_getElem? (i := 30) rfl))) Via.refl e16 (Fld.other W16 Fc14 (Or.inl (Ne.symm (ne14 _ sf14_x').1))) (g := (mkF m 20 #[.val (.ref x'), .val (.ref va), .val (.int (0 : Int32)), .val (.int (0 : Int32)), .val .null, .unset] [(.ref la14), (.ref x')])) rfl rfl (hb hby d3_20)
  refine own_st (fr' := (mkF m 23 #[.val (.ref x'), .val (.ref va), .val (.int (0 : Int32)), .val (.int (0 : Int32)), .val .null, .unset] [(.int (0 : Int32)), (.ref x')])) st18 ?_
  obtain ⟨T19, h19, X19, e19, W19, st19⟩ := putFN X18 hx hZ hown (hw _ (List.mem_of_getElem? (i := 30) rfl)) Via.refl e18 (Fld.other W16 (Fc0.ext E14) (Or.inr (Jvm.RoadKit.slot_ne (C := "java/lang/String") (Or.inr (hw _ (List.mem_of_getElem? (i := 31) rfl))) (Or.inr (hw _ (List.mem_of_getElem? (i := 33) rfl))) (by decide) (t := .byte) (t' := (.array .byte)) (by decide) (by decide)))) (Exa.wr W16 (E0.ext E14)) (Or.inr ⟨(hw _ (List.mem_of_getElem? (i := 31) rfl)), rfl, hnm⟩) (hw _ (List.mem_of_getElem? (i := 6) rfl)) (ty := .byte) (v' := (.int (0 : Int32))) (by decide) (rfl) (rfl) (g := (mkF m 23 #[.val (.ref x'), .val (.ref va), .val (.int (0 : Int32)), .val (.int (0 : Int32)), .val .null, .unset] [(.int (0 : Int32)), (.ref x')])) rfl rfl (hb hby d3_23)
  have Fw19 := Fld.same W19 (Fld.other W16 (Fc0.ext E14) (Or.inr (Jvm.RoadKit.slot_ne (C := "java/lang/String") (Or.inr (hw _ (List.mem_of_getElem? (i := 31) rfl))) (Or.inr (hw _ (List.mem_of_getElem? (i := 33) rfl))) (by decide) (t := .byte) (t' := (.array .byte)) (by decide) (by decide))))
  have N19 := Fr.snoc X19 N16 ge_x'
  have r20 := CHr.trans r17 (CHr.wr W19 sf17_x' r17.1)
  have sf20_x' := Safe.wr W19 sf17_x' r17.1 sf17_x'
  refine own_st (fr' := (mkF m 26 #[.val (.ref x'), .val (.ref va), .val (.int (0 : Int32)), .val (.int (0 : Int32)), .val .null, .unset] [])) st19 ?_
  exact own_retVC X19 hx hlk hZ hS (Nat.le_trans (Nat.le_trans (Nat.le_refl _) (Nat.le_of_eq (Wr.size W16).symm)) (Nat.le_of_eq (Wr.size W19).symm)) (own_ew hw) r20 e19 hret (hb hby d3_26) (by decide) (by decide) (by rw [e19]; exact ⟨⟨lb14, rfl, ((V14.other W16 (Ne.symm (ne14 _ sf14_x').2)).other W19 (Ne.symm (ne14 _ sf14_x').2)), (Fld.other W19 Fw16 (Or.inr (Jvm.RoadKit.slot_ne (C := "java/lang/String") (Or.inr (hw _ (List.mem_of_getElem? (i := 33) rfl))) (Or.inr (hw _ (List.mem_of_getElem? (i := 31) rfl))) (by decide) (t := (.array .byte)) (t' := .byte) (by decide) (by decide)))), Fw19⟩, N19, (Keep.wr (Keep.wr (Keep.ext (Keep.refl h0 [x']) E14) W16 (Or.inl (List.mem_of_getElem? (i := 0) rfl))) W19 (Or.inl (List.mem_of_getElem? (i := 0) rfl)))⟩)
theorem ef_scE (m : MethodId) (va : Addr) : entryFrame m #[(.ref x'), (.ref va)] 2 = mkF m 0 #[.val (.ref x'), .val (.ref va)] [] := by first | (simp [entryFrame, mkF, argsToLocals, Value.category, maxLocals]; done) | rfl
def Q_scE (Z : State) (x' : Addr) (va : Addr) (f : Nat → Value) (h0 : Heap) (n0 : Nat) : Option Value → Heap → List Loc → Prop := fun v h L => (∃ b : Addr, v = none ∧ own_A Z h b .byte 0 (fun _ => .int 0) ∧ Fld Z h x' "java/lang/String" "value" "[B" (.ref b) ∧ Fld Z h x' "java/lang/String" "coder" "B" (.int 0)) ∧ Fr n0 L ∧ Keep h0 h [x']
set_option maxRecDepth 65536 in
set_option maxHeartbeats 40000000 in
theorem rm_scE (l : Launch) (Z : State) (a0 : Array Value) (hw : ∀ d ∈ tables_1, d.before a0 Z = true) (ws : List Jvm.Cond) (x' : Addr) (va : Addr) (f : Nat → Value) (h0 : Heap) (n0 : Nat) (Z0 : n0 ≤ h0.size) (E0 : Exa Z h0 x' "java/lang/String") (Fv0 : Fld Z h0 x' "java/lang/String" "value" "[B" .null) (Fc0 : Fld Z h0 x' "java/lang/String" "coder" "B" (.int 0)) (ge_x' : n0 ≤ x') (VV : own_A Z h0 va .char 0 f) :
    MetFree l (⟨"java/lang/String", "<init>", "([C)V"⟩ : MethodName) (head1 (Jvm.Cond.code (⟨"java/lang/String", "<init>", "([C)V"⟩ : MethodName) jdk_42_method_3_code 2 none :: ws) ({ frames := 2, cells := 2, slots := 4, locals := 29 } : Room)) (fun aX U => aX = #[(.ref x'), (.ref va)] ∧ Z.Warmed39 U.vm ∧ U.heap = h0 ∧ CHv Z own_EL U.vm h0) (fun _ _ _ _ _ => True) (fun _ U o U' => ∃ v L, o = .returned v ∧ (Q_scE Z x' va f h0 n0) v U'.heap L ∧ CHr Z own_EL U.vm U.heap U'.vm U'.heap ∧ ReturnedEndW U o U' L ({ frames := 2, cells := 2, slots := 4, locals := 29 } : Room).cells ({ frames := 2, cells := 2, slots := 4, locals := 29 } : Room).slots) := by
  refine own_metC (Q := (Q_scE Z x' va f h0 n0)) (plainFor_of_name (x := (⟨"java/lang/String", "<init>", "([C)V"⟩ : MethodName)) pn_1) (fun m => ef_scE m va) ?_
  intro p e s m below meth cD s₁ hx hby hml hret hlk hZ hown hnm X0 e0 hS r0
  have hown : s.vm.findClass "java/lang/String" = some m.cls := hown
  have N0 := Fr.nil n0
  refine own_st (fr' := (mkF m 1 #[.val (.ref x'), .val (.ref va)] [(.ref x')])) (fun t k => XS.aloadN X0.here hx rfl (hb hby d2_0) rfl rfl k) ?_
  refine own_st (fr' := (mkF m 2 #[.val (.ref x'), .val (.ref va)] [(.ref va), (.ref x')])) (fun t k => XS.aloadN X0.here hx rfl (hb hby d2_1) rfl rfl k) ?_
  refine own_st (fr' := (mkF m 3 #[.val (.ref x'), .val (.ref va)] [(.int (0 : Int32)), (.ref va), (.ref x')])) (fun t k => XS.iconst X0.here hx rfl (hb hby d2_2) k) ?_
  refine own_st (fr' := (mkF m 4 #[.val (.ref x'), .val (.ref va)] [(.ref va), (.int (0 : Int32)), (.ref va), (.ref x')])) (fun t k => XS.aloadN X0.here hx rfl (hb hby d2_3) rfl rfl k) ?_
  refine own_alen X0 hx hZ e0 VV (hb hby d2_4) ?_
  refine own_st (fr' := (mkF m 6 #[.val (.ref x'), .val (.ref va)] [.null, (.int (0 : Int32)), (.int (0 : Int32)), (.ref va), (.ref x')])) (fun t k => XS.aconstNull X0.here hx rfl (hb hby d2_5) k) ?_
  refine own_callNC X0 hx hZ hS (Nat.le_refl _) (own_ew hw) r0 (y := (⟨"java/lang/String", "<init>", "([CIILjava/lang/Void;)V"⟩ : MethodName)) hown rfl (hw _ (List.mem_of_getElem? (i := 11) rfl)) (hw _ (List.mem_of_getElem? (i := 12) rfl)) (hw _ (List.mem_of_getElem? (i := 7) rfl)) (hw _ (List.mem_of_getElem? (i := 14) rfl)) (by decide) (a := x') (argsL := [(.ref va), (.int (0 : Int32)), (.int (0 : Int32)), .null]) (rest := []) (W := 0) (rm_siE l Z a0 hw [] x' va h0 n0 Z0 E0 Fv0 Fc0 ge_x') e0  (by rw [hml]; rfl) (lenOf pd_3 rfl) rfl (Nat.le_of_eq rfl) (hb hby d2_6) (by decide) (by decide) (by decide) (by decide) ?_
  intro v21 T21 L21 vm21 X21 hQ21 hZ hown hS rc21 r21
  obtain ⟨⟨b, rfl, VB, G1, G2⟩, Nq21, K21⟩ := hQ21
  have N21 := Fr.app N0 Nq21
  exact own_retVC X21 hx hlk hZ hS (Nat.le_refl _) (own_ew hw) r21 rfl hret (hb hby d2_9) (by decide) (by decide) (⟨⟨b, rfl, VB, G1, G2⟩, N21, K21⟩)
theorem own_c255 (c : Int32) : (nar .char ((c &&& (255 : Int32)).toUInt32.toUInt16.toUInt32.toInt32)).toInt ≤ 255 := by
  have q := c_mask c 255 8 (by decide) (by decide)
  have q1 := c_i2c (c &&& 255)
  have q2 := c_i2c ((c &&& (255 : Int32)).toUInt32.toUInt16.toUInt32.toInt32)
  show (((c &&& (255 : Int32)).toUInt32.toUInt16.toUInt32.toInt32).toUInt32.toUInt16.toUInt32.toInt32).toInt ≤ 255
  omega
theorem pd_4 : parseMethodDescriptor "([C)V" = some ⟨[(.array .char)], none⟩ := by decide +kernel
theorem d1_0 : decode method_2_code 0 = .ok (.iload_n 0, 1) := by decide +kernel
theorem d1_1 : decode method_2_code 1 = .ok (.iconst 3, 1) := by decide +kernel
theorem d1_2 : decode method_2_code 2 = .ok (.iand, 1) := by decide +kernel
theorem d1_3 : decode method_2_code 3 = .ok (.istore_n 2, 1) := by decide +kernel
theorem d1_4 : decode method_2_code 4 = .ok (.iload_n 2, 1) := by decide +kernel
theorem d1_5 : decode method_2_code 5 = .ok (.ifCond .ne 5, 3) := by decide +kernel
theorem d1_8 : decode method_2_code 8 = .ok (.aconst_null, 1) := by decide +kernel
theorem d1_9 : decode method_2_code 9 = .ok (.areturn, 1) := by decide +kernel
theorem d1_10 : decode method_2_code 10 = .ok (.iload_n 2, 1) := by decide +kernel
theorem d1_11 : decode method_2_code 11 = .ok (.iconst 1, 1) := by decide +kernel
theorem d1_12 : decode method_2_code 12 = .ok (.if_icmp .ne 14, 3) := by decide +kernel
theorem d1_15 : decode method_2_code 15 = .ok (.new 7, 3) := by decide +kernel
theorem d1_18 : decode method_2_code 18 = .ok (.dup, 1) := by decide +kernel
theorem d1_19 : decode method_2_code 19 = .ok (.iconst 0, 1) := by decide +kernel
theorem d1_20 : decode method_2_code 20 = .ok (.newarray .char, 2) := by decide +kernel
theorem d1_22 : decode method_2_code 22 = .ok (.invokespecial 9, 3) := by decide +kernel
theorem d1_25 : decode method_2_code 25 = .ok (.areturn, 1) := by decide +kernel
theorem d1_26 : decode method_2_code 26 = .ok (.iload_n 2, 1) := by decide +kernel
theorem d1_27 : decode method_2_code 27 = .ok (.iconst 2, 1) := by decide +kernel
theorem d1_28 : decode method_2_code 28 = .ok (.if_icmp .ne 25, 3) := by decide +kernel
theorem d1_31 : decode method_2_code 31 = .ok (.iconst 1, 1) := by decide +kernel
theorem d1_32 : decode method_2_code 32 = .ok (.newarray .char, 2) := by decide +kernel
theorem d1_34 : decode method_2_code 34 = .ok (.dup, 1) := by decide +kernel
theorem d1_35 : decode method_2_code 35 = .ok (.iconst 0, 1) := by decide +kernel
theorem d1_36 : decode method_2_code 36 = .ok (.iload_n 1, 1) := by decide +kernel
theorem d1_37 : decode method_2_code 37 = .ok (.sipush 255, 3) := by decide +kernel
theorem d1_40 : decode method_2_code 40 = .ok (.iand, 1) := by decide +kernel
theorem d1_41 : decode method_2_code 41 = .ok (.i2c, 1) := by decide +kernel
theorem d1_42 : decode method_2_code 42 = .ok (.castore, 1) := by decide +kernel
theorem d1_43 : decode method_2_code 43 = .ok (.astore_n 3, 1) := by decide +kernel
theorem d1_44 : decode method_2_code 44 = .ok (.new 7, 3) := by decide +kernel
theorem d1_47 : decode method_2_code 47 = .ok (.dup, 1) := by decide +kernel
theorem d1_48 : decode method_2_code 48 = .ok (.aload_n 3, 1) := by decide +kernel
theorem d1_49 : decode method_2_code 49 = .ok (.invokespecial 9, 3) := by decide +kernel
theorem d1_52 : decode method_2_code 52 = .ok (.areturn, 1) := by decide +kernel
theorem d1_53 : decode method_2_code 53 = .ok (.iconst 2, 1) := by decide +kernel
theorem d1_54 : decode method_2_code 54 = .ok (.newarray .char, 2) := by decide +kernel
theorem d1_56 : decode method_2_code 56 = .ok (.dup, 1) := by decide +kernel
theorem d1_57 : decode method_2_code 57 = .ok (.iconst 0, 1) := by decide +kernel
theorem d1_58 : decode method_2_code 58 = .ok (.iload_n 1, 1) := by decide +kernel
theorem d1_59 : decode method_2_code 59 = .ok (.sipush 255, 3) := by decide +kernel
theorem d1_62 : decode method_2_code 62 = .ok (.iand, 1) := by decide +kernel
theorem d1_63 : decode method_2_code 63 = .ok (.i2c, 1) := by decide +kernel
theorem d1_64 : decode method_2_code 64 = .ok (.castore, 1) := by decide +kernel
theorem d1_65 : decode method_2_code 65 = .ok (.dup, 1) := by decide +kernel
theorem d1_66 : decode method_2_code 66 = .ok (.iconst 1, 1) := by decide +kernel
theorem d1_67 : decode method_2_code 67 = .ok (.iload_n 1, 1) := by decide +kernel
theorem d1_68 : decode method_2_code 68 = .ok (.bipush 8, 2) := by decide +kernel
theorem d1_70 : decode method_2_code 70 = .ok (.iushr, 1) := by decide +kernel
theorem d1_71 : decode method_2_code 71 = .ok (.sipush 255, 3) := by decide +kernel
theorem d1_74 : decode method_2_code 74 = .ok (.iand, 1) := by decide +kernel
theorem d1_75 : decode method_2_code 75 = .ok (.i2c, 1) := by decide +kernel
theorem d1_76 : decode method_2_code 76 = .ok (.castore, 1) := by decide +kernel
theorem d1_77 : decode method_2_code 77 = .ok (.astore_n 3, 1) := by decide +kernel
theorem d1_78 : decode method_2_code 78 = .ok (.new 7, 3) := by decide +kernel
theorem d1_81 : decode method_2_code 81 = .ok (.dup, 1) := by decide +kernel
theorem d1_82 : decode method_2_code 82 = .ok (.aload_n 3, 1) := by decide +kernel
theorem d1_83 : decode method_2_code 83 = .ok (.invokespecial 9, 3) := by decide +kernel
theorem d1_86 : decode method_2_code 86 = .ok (.areturn, 1) := by decide +kernel
theorem pn_2 : plainName "com/example/precedence/precedence/xslt/NameTestPriorityPinLaw" = true := by first | (simp [plainName, overriddenIn]; done) | decide +kernel
theorem ef_draw (m : MethodId) (sl : Int32) (ch : Int32) : entryFrame m #[(.int sl), (.int ch)] 4 = mkF m 0 #[.val (.int sl), .val (.int ch), .unset, .unset] [] := by first | (simp [entryFrame, mkF, argsToLocals, Value.category, maxLocals]; done) | rfl
def Q_draw (Z : State) (sl : Int32) (ch : Int32) (cz : Int32) (h0 : Heap) (n0 : Nat) : Option Value → Heap → List Loc → Prop := fun v h L => (v = some .null ∨ ∃ b : Addr, v = some (.ref b)) ∧ Fr n0 L ∧ Keep h0 h []
set_option maxRecDepth 65536 in
set_option maxHeartbeats 40000000 in
theorem rm_draw (l : Launch) (Z : State) (a0 : Array Value) (hw : ∀ d ∈ tables_1, d.before a0 Z = true) (ws : List Jvm.Cond) (sl : Int32) (ch : Int32) (cz : Int32) (h0 : Heap) (n0 : Nat) (Z0 : n0 ≤ h0.size) (S_cs : Sta Z h0 "java/lang/String" "COMPACT_STRINGS" "Z" (.int cz)) (hcz : ¬ cz.toInt = 0) :
    MetFree l (⟨"com/example/precedence/precedence/xslt/NameTestPriorityPinLaw", "draw", "(II)Ljava/lang/String;"⟩ : MethodName) (head1 (Jvm.Cond.code (⟨"com/example/precedence/precedence/xslt/NameTestPriorityPinLaw", "draw", "(II)Ljava/lang/String;"⟩ : MethodName) method_2_code 4 (some (.object "java/lang/String")) :: ws) ({ frames := 4, cells := 4, slots := 13, locals := 80 } : Room)) (fun aX U => aX = #[(.int sl), (.int ch)] ∧ Z.Warmed39 U.vm ∧ U.heap = h0 ∧ CHv Z own_EL U.vm h0) (fun _ _ _ _ _ => True) (fun _ U o U' => ∃ v L, o = .returned v ∧ (Q_draw Z sl ch cz h0 n0) v U'.heap L ∧ CHr Z own_EL U.vm U.heap U'.vm U'.heap ∧ ReturnedEndW U o U' L ({ frames := 4, cells := 4, slots := 13, locals := 80 } : Room).cells ({ frames := 4, cells := 4, slots := 13, locals := 80 } : Room).slots) := by
  refine own_metC (Q := (Q_draw Z sl ch cz h0 n0)) (plainFor_of_name (x := (⟨"com/example/precedence/precedence/xslt/NameTestPriorityPinLaw", "draw", "(II)Ljava/lang/String;"⟩ : MethodName)) pn_2) (fun m => ef_draw m sl ch) ?_
  intro p e s m below meth cD s₁ hx hby hml hret hlk hZ hown hnm X0 e0 hS r0
  have hown : s.vm.findClass "com/example/precedence/precedence/xslt/NameTestPriorityPinLaw" = some m.cls := hown
  have N0 := Fr.nil n0
  refine own_st (fr' := (mkF m 1 #[.val (.int sl), .val (.int ch), .unset, .unset] [(.int sl)])) (fun t k => XS.iloadN X0.here hx rfl (hb hby d1_0) rfl  k) ?_
  refine own_st (fr' := (mkF m 2 #[.val (.int sl), .val (.int ch), .unset, .unset] [(.int (3 : Int32)), (.int sl)])) (fun t k => XS.iconst X0.here hx rfl (hb hby d1_1) k) ?_
  refine own_st (fr' := (mkF m 3 #[.val (.int sl), .val (.int ch), .unset, .unset] [(.int (sl &&& (3 : Int32)))])) (fun t k => XS.iand X0.here hx rfl (hb hby d1_2) rfl k) ?_
  refine own_st (fr' := (mkF m 4 #[.val (.int sl), .val (.int ch), .val (.int (sl &&& (3 : Int32))), .unset] [])) (fun t k => XS.istoreN X0.here hx rfl (hb hby d1_3) rfl  (l' := #[.val (.int sl), .val (.int ch), .val (.int (sl &&& (3 : Int32))), .unset]) rfl k) ?_
  refine own_st (fr' := (mkF m 5 #[.val (.int sl), .val (.int ch), .val (.int (sl &&& (3 : Int32))), .unset] [(.int (sl &&& (3 : Int32)))])) (fun t k => XS.iloadN X0.here hx rfl (hb hby d1_4) rfl  k) ?_
  by_cases h1 : (sl &&& (3 : Int32)).toInt = 0
  · refine own_st (fr' := (mkF m 8 #[.val (.int sl), .val (.int ch), .val (.int (sl &&& (3 : Int32))), .unset] [])) (fun t k => XS.ifNo X0.here hx rfl (hb hby d1_5) rfl ((if0 _ _).trans (own_teq (x := (sl &&& (3 : Int32))) (y := (0 : Int32)) h1).2) k) ?_
    refine own_st (fr' := (mkF m 9 #[.val (.int sl), .val (.int ch), .val (.int (sl &&& (3 : Int32))), .unset] [.null])) (fun t k => XS.aconstNull X0.here hx rfl (hb hby d1_8) k) ?_
    exact own_retC X0 hx hlk hZ hS (Nat.le_refl _) (own_ew hw) r0 e0 hret rfl (Or.inr (Or.inr (Or.inr (Or.inr ⟨rfl, rfl, rfl⟩)))) (hb hby d1_9) (by decide) (by decide) (by rw [e0]; exact ⟨Or.inl rfl, N0, (Keep.refl h0 [])⟩)
  · refine own_st (fr' := (mkF m 10 #[.val (.int sl), .val (.int ch), .val (.int (sl &&& (3 : Int32))), .unset] [])) (fun t k => XS.ifYes X0.here hx rfl (pc0 := 5) (pc' := 10) rfl (hb hby d1_5) rfl ((if0 _ _).trans (own_feq (x := (sl &&& (3 : Int32))) (y := (0 : Int32)) h1).2) (by decide) (by decide) k) ?_
    refine own_st (fr' := (mkF m 11 #[.val (.int sl), .val (.int ch), .val (.int (sl &&& (3 : Int32))), .unset] [(.int (sl &&& (3 : Int32)))])) (fun t k => XS.iloadN X0.here hx rfl (hb hby d1_10) rfl  k) ?_
    refine own_st (fr' := (mkF m 12 #[.val (.int sl), .val (.int ch), .val (.int (sl &&& (3 : Int32))), .unset] [(.int (1 : Int32)), (.int (sl &&& (3 : Int32)))])) (fun t k => XS.iconst X0.here hx rfl (hb hby d1_11) k) ?_
    by_cases h2 : (sl &&& (3 : Int32)).toInt = 1
    · refine own_st (fr' := (mkF m 15 #[.val (.int sl), .val (.int ch), .val (.int (sl &&& (3 : Int32))), .unset] [])) (fun t k => XS.icmpNo X0.here hx rfl (hb hby d1_12) rfl (own_teq (x := (sl &&& (3 : Int32))) (y := (1 : Int32)) h2).2 k) ?_
      obtain ⟨T22, h22, X22, e22, E22, A22, D22, -, st22⟩ := newO X0 hx hZ hown (hw _ (List.mem_of_getElem? (i := 5) rfl)) (hw _ (List.mem_of_getElem? (i := 6) rfl)) (hw _ (List.mem_of_getElem? (i := 7) rfl)) e0 (g := (mkF m 15 #[.val (.int sl), .val (.int ch), .val (.int (sl &&& (3 : Int32))), .unset] [])) rfl (hb hby d1_15) (by decide) (by decide)
      obtain ⟨b22, g22⟩ : ∃ z, z = h0.size := ⟨_, rfl⟩
      rw [← g22] at A22 D22 st22
      have ge_b22 : n0 ≤ b22 := Nat.le_trans Z0 (Nat.le_of_eq g22.symm)
      have sz_b22 : h0.size ≤ b22 := Nat.le_trans (Nat.le_refl _) (Nat.le_of_eq g22.symm)
      have r23 := CHr.trans r0 (CHr.ext E22 r0.1)
      have F22_coder : Fld Z h22 b22 "java/lang/String" "coder" "B" (.int (0 : Int32)) := D22 (Or.inr (hw _ (List.mem_of_getElem? (i := 31) rfl))) (ty := .byte) (by decide)
      have F22_value : Fld Z h22 b22 "java/lang/String" "value" "[B" .null := D22 (Or.inr (hw _ (List.mem_of_getElem? (i := 33) rfl))) (ty := (.array .byte)) (by decide)
      refine own_st (fr' := (mkF m 18 #[.val (.int sl), .val (.int ch), .val (.int (sl &&& (3 : Int32))), .unset] [(.ref b22)])) st22 ?_
      refine own_st (fr' := (mkF m 19 #[.val (.int sl), .val (.int ch), .val (.int (sl &&& (3 : Int32))), .unset] [(.ref b22), (.ref b22)])) (fun t k => XS.dup X22.here hx rfl (hb hby d1_18) rfl rfl k) ?_
      refine own_st (fr' := (mkF m 20 #[.val (.int sl), .val (.int ch), .val (.int (sl &&& (3 : Int32))), .unset] [(.int (0 : Int32)), (.ref b22), (.ref b22)])) (fun t k => XS.iconst X22.here hx rfl (hb hby d1_19) k) ?_
      refine own_newarr X22 hx hZ (hw _ (List.mem_of_getElem? (i := 4) rfl)) e22 (hb hby d1_20) (by decide) (cap := 0) (by decide) (by decide) (by decide) (by decide) rfl ?_
      intro T24 h24 b24 g24 X24 e24 E24 V24
      have lt24_b22 : b22 < b24 := Nat.lt_of_lt_of_eq A22.lt g24.symm
      have ne24_b22 : b22 ≠ b24 := Nat.ne_of_lt lt24_b22
      have ge_b24 : n0 ≤ b24 := Nat.le_trans (Nat.le_trans Z0 E22.1) (Nat.le_of_eq g24.symm)
      have sz_b24 : h0.size ≤ b24 := Nat.le_trans (Nat.le_trans (Nat.le_refl _) E22.1) (Nat.le_of_eq g24.symm)
      have r25 := CHr.trans r23 (CHr.ext E24 r23.1)
      refine own_callNC X24 hx hZ hS (Nat.le_trans (Nat.le_trans (Nat.le_refl _) E22.1) E24.1) (own_ew hw) r25 (y := (⟨"java/lang/String", "<init>", "([C)V"⟩ : MethodName)) hown rfl (hw _ (List.mem_of_getElem? (i := 8) rfl)) (hw _ (List.mem_of_getElem? (i := 9) rfl)) (hw _ (List.mem_of_getElem? (i := 7) rfl)) (hw _ (List.mem_of_getElem? (i := 10) rfl)) (by decide) (a := b22) (argsL := [(.ref b24)]) (rest := [(.ref b22)]) (W := 1) (rm_scE l Z a0 hw [] b22 b24 _ h24 n0 (Nat.le_trans (Nat.le_trans Z0 E22.1) E24.1) (A22.ext E24) (F22_value.ext E24) (F22_coder.ext E24) ge_b22 V24) e24  (by rw [hml]; rfl) (lenOf pd_4 rfl) rfl (Nat.le_of_eq rfl) (hb hby d1_22) (by decide) (by decide) (by decide) (by decide) ?_
      intro v26 T26 L26 vm26 X26 hQ26 hZ hown hS rc26 r26
      obtain ⟨⟨b, rfl, VB, G1, G2⟩, Nq26, K26⟩ := hQ26
      have N26 := Fr.app N0 Nq26
      exact own_retC X26 hx hlk hZ hS (Nat.le_refl _) (own_ew hw) r26 rfl hret rfl (Or.inr (Or.inr (Or.inr (Or.inr ⟨rfl, rfl, rfl⟩)))) (hb hby d1_25) (by decide) (by decide) (⟨Or.inr ⟨_, rfl⟩, N26, (Keep.trans (Keep.ext (Keep.ext (Keep.refl h0 []) E22) E24) K26 (allS (Or.inr sz_b22) all0))⟩)
    · refine own_st (fr' := (mkF m 26 #[.val (.int sl), .val (.int ch), .val (.int (sl &&& (3 : Int32))), .unset] [])) (fun t k => XS.icmpYes X0.here hx rfl (pc0 := 12) (pc' := 26) rfl (hb hby d1_12) rfl (own_feq (x := (sl &&& (3 : Int32))) (y := (1 : Int32)) h2).2 (by decide) (by decide) k) ?_
      refine own_st (fr' := (mkF m 27 #[.val (.int sl), .val (.int ch), .val (.int (sl &&& (3 : Int32))), .unset] [(.int (sl &&& (3 : Int32)))])) (fun t k => XS.iloadN X0.here hx rfl (hb hby d1_26) rfl  k) ?_
      refine own_st (fr' := (mkF m 28 #[.val (.int sl), .val (.int ch), .val (.int (sl &&& (3 : Int32))), .unset] [(.int (2 : Int32)), (.int (sl &&& (3 : Int32)))])) (fun t k => XS.iconst X0.here hx rfl (hb hby d1_27) k) ?_
      by_cases h3 : (sl &&& (3 : Int32)).toInt = 2
      · refine own_st (fr' := (mkF m 31 #[.val (.int sl), .val (.int ch), .val (.int (sl &&& (3 : Int32))), .unset] [])) (fun t k => XS.icmpNo X0.here hx rfl (hb hby d1_28) rfl (own_teq (x := (sl &&& (3 : Int32))) (y := (2 : Int32)) h3).2 k) ?_
        refine own_st (fr' := (mkF m 32 #[.val (.int sl), .val (.int ch), .val (.int (sl &&& (3 : Int32))), .unset] [(.int (1 : Int32))])) (fun t k => XS.iconst X0.here hx rfl (hb hby d1_31) k) ?_
        refine own_newarr X0 hx hZ (hw _ (List.mem_of_getElem? (i := 4) rfl)) e0 (hb hby d1_32) (by decide) (cap := 1) (by decide) (by decide) (by decide) (by decide) rfl ?_
        intro T27 h27 b27 g27 X27 e27 E27 V27
        have ge_b27 : n0 ≤ b27 := Nat.le_trans Z0 (Nat.le_of_eq g27.symm)
        have sz_b27 : h0.size ≤ b27 := Nat.le_trans (Nat.le_refl _) (Nat.le_of_eq g27.symm)
        have r28 := CHr.trans r0 (CHr.ext E27 r0.1)
        refine own_st (fr' := (mkF m 35 #[.val (.int sl), .val (.int ch), .val (.int (sl &&& (3 : Int32))), .unset] [(.ref b27), (.ref b27)])) (fun t k => XS.dup X27.here hx rfl (hb hby d1_34) rfl rfl k) ?_
        refine own_st (fr' := (mkF m 36 #[.val (.int sl), .val (.int ch), .val (.int (sl &&& (3 : Int32))), .unset] [(.int (0 : Int32)), (.ref b27), (.ref b27)])) (fun t k => XS.iconst X27.here hx rfl (hb hby d1_35) k) ?_
        refine own_st (fr' := (mkF m 37 #[.val (.int sl), .val (.int ch), .val (.int (sl &&& (3 : Int32))), .unset] [(.int ch), (.int (0 : Int32)), (.ref b27), (.ref b27)])) (fun t k => XS.iloadN X27.here hx rfl (hb hby d1_36) rfl  k) ?_
        refine own_st (fr' := (mkF m 40 #[.val (.int sl), .val (.int ch), .val (.int (sl &&& (3 : Int32))), .unset] [(.int (255 : Int32)), (.int ch), (.int (0 : Int32)), (.ref b27), (.ref b27)])) (fun t k => XS.sipush X27.here hx rfl (hb hby d1_37) k) ?_
        refine own_st (fr' := (mkF m 41 #[.val (.int sl), .val (.int ch), .val (.int (sl &&& (3 : Int32))), .unset] [(.int (ch &&& (255 : Int32))), (.int (0 : Int32)), (.ref b27), (.ref b27)])) (fun t k => XS.iand X27.here hx rfl (hb hby d1_40) rfl k) ?_
        refine own_st (fr' := (mkF m 42 #[.val (.int sl), .val (.int ch), .val (.int (sl &&& (3 : Int32))), .unset] [(.int ((ch &&& (255 : Int32)).toUInt32.toUInt16.toUInt32.toInt32)), (.int (0 : Int32)), (.ref b27), (.ref b27)])) (fun t k => XS.i2c X27.here hx rfl (hb hby d1_41) rfl k) ?_
        refine own_castore X27 hx hZ e27 V27 (by decide) (by decide) (hb hby d1_42) ?_
        intro T29 h29 X29 e29 W29 V29
        have N29 := Fr.snoc X29 N0 ge_b27
        have r30 := CHr.trans r28 (CHr.wr W29 (own_safeA hZ V27 (by decide)) r28.1)
        refine own_st (fr' := (mkF m 44 #[.val (.int sl), .val (.int ch), .val (.int (sl &&& (3 : Int32))), .val (.ref b27)] [])) (fun t k => XS.astoreN X29.here hx rfl (hb hby d1_43) rfl rfl (l' := #[.val (.int sl), .val (.int ch), .val (.int (sl &&& (3 : Int32))), .val (.ref b27)]) rfl k) ?_
        obtain ⟨T31, h31, X31, e31, E31, A31, D31, -, st31⟩ := newO X29 hx hZ hown (hw _ (List.mem_of_getElem? (i := 5) rfl)) (hw _ (List.mem_of_getElem? (i := 6) rfl)) (hw _ (List.mem_of_getElem? (i := 7) rfl)) e29 (g := (mkF m 44 #[.val (.int sl), .val (.int ch), .val (.int (sl &&& (3 : Int32))), .val (.ref b27)] [])) rfl (hb hby d1_44) (by decide) (by decide)
        obtain ⟨b31, g31⟩ : ∃ z, z = h29.size := ⟨_, rfl⟩
        rw [← g31] at A31 D31 st31
        have lt31_b27 : b27 < b31 := Nat.lt_of_lt_of_eq V29.lt g31.symm
        have ne31_b27 : b27 ≠ b31 := Nat.ne_of_lt lt31_b27
        have ge_b31 : n0 ≤ b31 := Nat.le_trans (Nat.le_trans (Nat.le_trans Z0 E27.1) (Nat.le_of_eq (Wr.size W29).symm)) (Nat.le_of_eq g31.symm)
        have sz_b31 : h0.size ≤ b31 := Nat.le_trans (Nat.le_trans (Nat.le_trans (Nat.le_refl _) E27.1) (Nat.le_of_eq (Wr.size W29).symm)) (Nat.le_of_eq g31.symm)
        have r32 := CHr.trans r30 (CHr.ext E31 r30.1)
        have F31_coder : Fld Z h31 b31 "java/lang/String" "coder" "B" (.int (0 : Int32)) := D31 (Or.inr (hw _ (List.mem_of_getElem? (i := 31) rfl))) (ty := .byte) (by decide)
        have F31_value : Fld Z h31 b31 "java/lang/String" "value" "[B" .null := D31 (Or.inr (hw _ (List.mem_of_getElem? (i := 33) rfl))) (ty := (.array .byte)) (by decide)
        refine own_st (fr' := (mkF m 47 #[.val (.int sl), .val (.int ch), .val (.int (sl &&& (3 : Int32))), .val (.ref b27)] [(.ref b31)])) st31 ?_
        refine own_st (fr' := (mkF m 48 #[.val (.int sl), .val (.int ch), .val (.int (sl &&& (3 : Int32))), .val (.ref b27)] [(.ref b31), (.ref b31)])) (fun t k => XS.dup X31.here hx rfl (hb hby d1_47) rfl rfl k) ?_
        refine own_st (fr' := (mkF m 49 #[.val (.int sl), .val (.int ch), .val (.int (sl &&& (3 : Int32))), .val (.ref b27)] [(.ref b27), (.ref b31), (.ref b31)])) (fun t k => XS.aloadN X31.here hx rfl (hb hby d1_48) rfl rfl k) ?_
        have hc : own_A Z h31 b27 .char 1 (fun i => Value.int ((fun i => if i = 0 then (nar .char ((ch &&& (255 : Int32)).toUInt32.toUInt16.toUInt32.toInt32)) else (nar .char ((ch &&& (255 : Int32)).toUInt32.toUInt16.toUInt32.toInt32))) i)) := own_A.congr (V29.ext E31) (fun i hi => by
          have k1 : ((1 : Int32)).toInt = 1 := rfl
          rcases (by omega : i = 0 ∨ i = 1) with rfl | rfl
          · rfl
          · omega)
        refine own_callN X31 hx hZ (y := (⟨"java/lang/String", "<init>", "([C)V"⟩ : MethodName)) hown rfl (hw _ (List.mem_of_getElem? (i := 8) rfl)) (hw _ (List.mem_of_getElem? (i := 9) rfl)) (hw _ (List.mem_of_getElem? (i := 7) rfl)) (hw _ (List.mem_of_getElem? (i := 10) rfl)) (by decide) (a := b31) (argsL := [(.ref b27)]) (rest := [(.ref b31)]) (W := 1) (rm_scL l Z a0 hw [] b31 b27 1 (fun i => if i = 0 then (nar .char ((ch &&& (255 : Int32)).toUInt32.toUInt16.toUInt32.toInt32)) else (nar .char ((ch &&& (255 : Int32)).toUInt32.toUInt16.toUInt32.toInt32))) cz h31 n0 (Nat.le_trans (Nat.le_trans (Nat.le_trans Z0 E27.1) (Nat.le_of_eq (Wr.size W29).symm)) E31.1) A31 F31_value F31_coder hc (fun i hi => by show (if i = 0 then _ else _ : Int32).toInt ≤ 255; split <;> exact own_c255 _) (by decide) ge_b31 (Sta.ext E31 (Sta.wr W29 (Sta.ext E27 S_cs))) hcz) e31 (by rw [hml]; rfl) (lenOf pd_4 rfl) rfl (Nat.le_of_eq rfl) (hb hby d1_49) (by decide) (by decide) (by decide) (by decide) ?_
        intro v33 T33 L33 X33 hQ33
        obtain ⟨⟨rr, gg, rfl, hr, VR, Hg, G1, G2⟩, Nq33, K33⟩ := hQ33
        have N33 := Fr.app N29 Nq33
        have r34 := CHr.trans r32 (CHr.keep K33 (allS (own_safeN hZ A31 F31_value) all0) r32.1)
        exact own_retC X33 hx hlk hZ hS (Nat.le_trans (Nat.le_trans (Nat.le_trans (Nat.le_trans (Nat.le_refl _) E27.1) (Nat.le_of_eq (Wr.size W29).symm)) E31.1) K33.1) (own_ew hw) r34 rfl hret rfl (Or.inr (Or.inr (Or.inr (Or.inr ⟨rfl, rfl, rfl⟩)))) (hb hby d1_52) (by decide) (by decide) (⟨Or.inr ⟨_, rfl⟩, N33, (Keep.trans (Keep.ext (Keep.wr (Keep.ext (Keep.refl h0 []) E27) W29 (Or.inr sz_b27)) E31) K33 (allS (Or.inr sz_b31) all0))⟩)
      · refine own_st (fr' := (mkF m 53 #[.val (.int sl), .val (.int ch), .val (.int (sl &&& (3 : Int32))), .unset] [])) (fun t k => XS.icmpYes X0.here hx rfl (pc0 := 28) (pc' := 53) rfl (hb hby d1_28) rfl (own_feq (x := (sl &&& (3 : Int32))) (y := (2 : Int32)) h3).2 (by decide) (by decide) k) ?_
        refine own_st (fr' := (mkF m 54 #[.val (.int sl), .val (.int ch), .val (.int (sl &&& (3 : Int32))), .unset] [(.int (2 : Int32))])) (fun t k => XS.iconst X0.here hx rfl (hb hby d1_53) k) ?_
        refine own_newarr X0 hx hZ (hw _ (List.mem_of_getElem? (i := 4) rfl)) e0 (hb hby d1_54) (by decide) (cap := 2) (by decide) (by decide) (by decide) (by decide) rfl ?_
        intro T35 h35 b35 g35 X35 e35 E35 V35
        have ge_b35 : n0 ≤ b35 := Nat.le_trans Z0 (Nat.le_of_eq g35.symm)
        have sz_b35 : h0.size ≤ b35 := Nat.le_trans (Nat.le_refl _) (Nat.le_of_eq g35.symm)
        have r36 := CHr.trans r0 (CHr.ext E35 r0.1)
        refine own_st (fr' := (mkF m 57 #[.val (.int sl), .val (.int ch), .val (.int (sl &&& (3 : Int32))), .unset] [(.ref b35), (.ref b35)])) (fun t k => XS.dup X35.here hx rfl (hb hby d1_56) rfl rfl k) ?_
        refine own_st (fr' := (mkF m 58 #[.val (.int sl), .val (.int ch), .val (.int (sl &&& (3 : Int32))), .unset] [(.int (0 : Int32)), (.ref b35), (.ref b35)])) (fun t k => XS.iconst X35.here hx rfl (hb hby d1_57) k) ?_
        refine own_st (fr' := (mkF m 59 #[.val (.int sl), .val (.int ch), .val (.int (sl &&& (3 : Int32))), .unset] [(.int ch), (.int (0 : Int32)), (.ref b35), (.ref b35)])) (fun t k => XS.iloadN X35.here hx rfl (hb hby d1_58) rfl  k) ?_
        refine own_st (fr' := (mkF m 62 #[.val (.int sl), .val (.int ch), .val (.int (sl &&& (3 : Int32))), .unset] [(.int (255 : Int32)), (.int ch), (.int (0 : Int32)), (.ref b35), (.ref b35)])) (fun t k => XS.sipush X35.here hx rfl (hb hby d1_59) k) ?_
        refine own_st (fr' := (mkF m 63 #[.val (.int sl), .val (.int ch), .val (.int (sl &&& (3 : Int32))), .unset] [(.int (ch &&& (255 : Int32))), (.int (0 : Int32)), (.ref b35), (.ref b35)])) (fun t k => XS.iand X35.here hx rfl (hb hby d1_62) rfl k) ?_
        refine own_st (fr' := (mkF m 64 #[.val (.int sl), .val (.int ch), .val (.int (sl &&& (3 : Int32))), .unset] [(.int ((ch &&& (255 : Int32)).toUInt32.toUInt16.toUInt32.toInt32)), (.int (0 : Int32)), (.ref b35), (.ref b35)])) (fun t k => XS.i2c X35.here hx rfl (hb hby d1_63) rfl k) ?_
        refine own_castore X35 hx hZ e35 V35 (by decide) (by decide) (hb hby d1_64) ?_
        intro T37 h37 X37 e37 W37 V37
        have N37 := Fr.snoc X37 N0 ge_b35
        have r38 := CHr.trans r36 (CHr.wr W37 (own_safeA hZ V35 (by decide)) r36.1)
        refine own_st (fr' := (mkF m 66 #[.val (.int sl), .val (.int ch), .val (.int (sl &&& (3 : Int32))), .unset] [(.ref b35), (.ref b35)])) (fun t k => XS.dup X37.here hx rfl (hb hby d1_65) rfl rfl k) ?_
        refine own_st (fr' := (mkF m 67 #[.val (.int sl), .val (.int ch), .val (.int (sl &&& (3 : Int32))), .unset] [(.int (1 : Int32)), (.ref b35), (.ref b35)])) (fun t k => XS.iconst X37.here hx rfl (hb hby d1_66) k) ?_
        refine own_st (fr' := (mkF m 68 #[.val (.int sl), .val (.int ch), .val (.int (sl &&& (3 : Int32))), .unset] [(.int ch), (.int (1 : Int32)), (.ref b35), (.ref b35)])) (fun t k => XS.iloadN X37.here hx rfl (hb hby d1_67) rfl  k) ?_
        refine own_st (fr' := (mkF m 70 #[.val (.int sl), .val (.int ch), .val (.int (sl &&& (3 : Int32))), .unset] [(.int (8 : Int32)), (.int ch), (.int (1 : Int32)), (.ref b35), (.ref b35)])) (fun t k => XS.bipush X37.here hx rfl (hb hby d1_68) k) ?_
        refine own_st (fr' := (mkF m 71 #[.val (.int sl), .val (.int ch), .val (.int (sl &&& (3 : Int32))), .unset] [(.int ((ch.toUInt32 >>> ((8 : Int32) &&& 31).toUInt32).toInt32)), (.int (1 : Int32)), (.ref b35), (.ref b35)])) (fun t k => XS.iushr X37.here hx rfl (hb hby d1_70) rfl k) ?_
        refine own_st (fr' := (mkF m 74 #[.val (.int sl), .val (.int ch), .val (.int (sl &&& (3 : Int32))), .unset] [(.int (255 : Int32)), (.int ((ch.toUInt32 >>> ((8 : Int32) &&& 31).toUInt32).toInt32)), (.int (1 : Int32)), (.ref b35), (.ref b35)])) (fun t k => XS.sipush X37.here hx rfl (hb hby d1_71) k) ?_
        refine own_st (fr' := (mkF m 75 #[.val (.int sl), .val (.int ch), .val (.int (sl &&& (3 : Int32))), .unset] [(.int (((ch.toUInt32 >>> ((8 : Int32) &&& 31).toUInt32).toInt32) &&& (255 : Int32))), (.int (1 : Int32)), (.ref b35), (.ref b35)])) (fun t k => XS.iand X37.here hx rfl (hb hby d1_74) rfl k) ?_
        refine own_st (fr' := (mkF m 76 #[.val (.int sl), .val (.int ch), .val (.int (sl &&& (3 : Int32))), .unset] [(.int ((((ch.toUInt32 >>> ((8 : Int32) &&& 31).toUInt32).toInt32) &&& (255 : Int32)).toUInt32.toUInt16.toUInt32.toInt32)), (.int (1 : Int32)), (.ref b35), (.ref b35)])) (fun t k => XS.i2c X37.here hx rfl (hb hby d1_75) rfl k) ?_
        refine own_castore X37 hx hZ e37 V37 (by decide) (by decide) (hb hby d1_76) ?_
        intro T39 h39 X39 e39 W39 V39
        have N39 := Fr.snoc X39 N37 ge_b35
        have r40 := CHr.trans r38 (CHr.wr W39 (own_safeA hZ V37 (by decide)) r38.1)
        refine own_st (fr' := (mkF m 78 #[.val (.int sl), .val (.int ch), .val (.int (sl &&& (3 : Int32))), .val (.ref b35)] [])) (fun t k => XS.astoreN X39.here hx rfl (hb hby d1_77) rfl rfl (l' := #[.val (.int sl), .val (.int ch), .val (.int (sl &&& (3 : Int32))), .val (.ref b35)]) rfl k) ?_
        obtain ⟨T41, h41, X41, e41, E41, A41, D41, -, st41⟩ := newO X39 hx hZ hown (hw _ (List.mem_of_getElem? (i := 5) rfl)) (hw _ (List.mem_of_getElem? (i := 6) rfl)) (hw _ (List.mem_of_getElem? (i := 7) rfl)) e39 (g := (mkF m 78 #[.val (.int sl), .val (.int ch), .val (.int (sl &&& (3 : Int32))), .val (.ref b35)] [])) rfl (hb hby d1_78) (by decide) (by decide)
        obtain ⟨b41, g41⟩ : ∃ z, z = h39.size := ⟨_, rfl⟩
        rw [← g41] at A41 D41 st41
        have lt41_b35 : b35 < b41 := Nat.lt_of_lt_of_eq V39.lt g41.symm
        have ne41_b35 : b35 ≠ b41 := Nat.ne_of_lt lt41_b35
        have ge_b41 : n0 ≤ b41 := Nat.le_trans (Nat.le_trans (Nat.le_trans (Nat.le_trans Z0 E35.1) (Nat.le_of_eq (Wr.size W37).symm)) (Nat.le_of_eq (Wr.size W39).symm)) (Nat.le_of_eq g41.symm)
        have sz_b41 : h0.size ≤ b41 := Nat.le_trans (Nat.le_trans (Nat.le_trans (Nat.le_trans (Nat.le_refl _) E35.1) (Nat.le_of_eq (Wr.size W37).symm)) (Nat.le_of_eq (Wr.size W39).symm)) (Nat.le_of_eq g41.symm)
        have r42 := CHr.trans r40 (CHr.ext E41 r40.1)
        have F41_coder : Fld Z h41 b41 "java/lang/String" "coder" "B" (.int (0 : Int32)) := D41 (Or.inr (hw _ (List.mem_of_getElem? (i := 31) rfl))) (ty := .byte) (by decide)
        have F41_value : Fld Z h41 b41 "java/lang/String" "value" "[B" .null := D41 (Or.inr (hw _ (List.mem_of_getElem? (i := 33) rfl))) (ty := (.array .byte)) (by decide)
        refine own_st (fr' := (mkF m 81 #[.val (.int sl), .val (.int ch), .val (.int (sl &&& (3 : Int32))), .val (.ref b35)] [(.ref b41)])) st41 ?_
        refine own_st (fr' := (mkF m 82 #[.val (.int sl), .val (.int ch), .val (.int (sl &&& (3 : Int32))), .val (.ref b35)] [(.ref b41), (.ref b41)])) (fun t k => XS.dup X41.here hx rfl (hb hby d1_81) rfl rfl k) ?_
        refine own_st (fr' := (mkF m 83 #[.val (.int sl), .val (.int ch), .val (.int (sl &&& (3 : Int32))), .val (.ref b35)] [(.ref b35), (.ref b41), (.ref b41)])) (fun t k => XS.aloadN X41.here hx rfl (hb hby d1_82) rfl rfl k) ?_
        have hc : own_A Z h41 b35 .char 2 (fun i => Value.int ((fun i => if i = 0 then (nar .char ((ch &&& (255 : Int32)).toUInt32.toUInt16.toUInt32.toInt32)) else (nar .char (((ch.toUInt32 >>> ((8 : Int32) &&& 31).toUInt32).toInt32 &&& (255 : Int32)).toUInt32.toUInt16.toUInt32.toInt32))) i)) := own_A.congr (V39.ext E41) (fun i hi => by
          have k1 : ((2 : Int32)).toInt = 2 := rfl
          rcases (by omega : i = 0 ∨ i = 1) with rfl | rfl
          · rfl
          · rfl)
        refine own_callN X41 hx hZ (y := (⟨"java/lang/String", "<init>", "([C)V"⟩ : MethodName)) hown rfl (hw _ (List.mem_of_getElem? (i := 8) rfl)) (hw _ (List.mem_of_getElem? (i := 9) rfl)) (hw _ (List.mem_of_getElem? (i := 7) rfl)) (hw _ (List.mem_of_getElem? (i := 10) rfl)) (by decide) (a := b41) (argsL := [(.ref b35)]) (rest := [(.ref b41)]) (W := 1) (rm_scL l Z a0 hw [] b41 b35 2 (fun i => if i = 0 then (nar .char ((ch &&& (255 : Int32)).toUInt32.toUInt16.toUInt32.toInt32)) else (nar .char (((ch.toUInt32 >>> ((8 : Int32) &&& 31).toUInt32).toInt32 &&& (255 : Int32)).toUInt32.toUInt16.toUInt32.toInt32))) cz h41 n0 (Nat.le_trans (Nat.le_trans (Nat.le_trans (Nat.le_trans Z0 E35.1) (Nat.le_of_eq (Wr.size W37).symm)) (Nat.le_of_eq (Wr.size W39).symm)) E41.1) A41 F41_value F41_coder hc (fun i hi => by show (if i = 0 then _ else _ : Int32).toInt ≤ 255; split <;> exact own_c255 _) (by decide) ge_b41 (Sta.ext E41 (Sta.wr W39 (Sta.wr W37 (Sta.ext E35 S_cs)))) hcz) e41 (by rw [hml]; rfl) (lenOf pd_4 rfl) rfl (Nat.le_of_eq rfl) (hb hby d1_83) (by decide) (by decide) (by decide) (by decide) ?_
        intro v43 T43 L43 X43 hQ43
        obtain ⟨⟨rr, gg, rfl, hr, VR, Hg, G1, G2⟩, Nq43, K43⟩ := hQ43
        have N43 := Fr.app N39 Nq43
        have r44 := CHr.trans r42 (CHr.keep K43 (allS (own_safeN hZ A41 F41_value) all0) r42.1)
        exact own_retC X43 hx hlk hZ hS (Nat.le_trans (Nat.le_trans (Nat.le_trans (Nat.le_trans (Nat.le_trans (Nat.le_refl _) E35.1) (Nat.le_of_eq (Wr.size W37).symm)) (Nat.le_of_eq (Wr.size W39).symm)) E41.1) K43.1) (own_ew hw) r44 rfl hret rfl (Or.inr (Or.inr (Or.inr (Or.inr ⟨rfl, rfl, rfl⟩)))) (hb hby d1_86) (by decide) (by decide) (⟨Or.inr ⟨_, rfl⟩, N43, (Keep.trans (Keep.ext (Keep.wr (Keep.wr (Keep.ext (Keep.refl h0 []) E35) W37 (Or.inr sz_b35)) W39 (Or.inr sz_b35)) E41) K43 (allS (Or.inr sz_b41) all0))⟩)
theorem d9_0 : decode jdk_30_method_1_code 0 = .ok (.aload_n 0, 1) := by decide +kernel
theorem d9_1 : decode jdk_30_method_1_code 1 = .ok (.invokespecial 1, 3) := by decide +kernel
theorem d9_4 : decode jdk_30_method_1_code 4 = .ok (.return_, 1) := by decide +kernel
theorem pn_3 : plainName "java/lang/Record" = true := by first | (simp [plainName, overriddenIn]; done) | decide +kernel
theorem ef_rec (m : MethodId) (a : Addr) : entryFrame m #[(.ref a)] 1 = mkF m 0 #[.val (.ref a)] [] := by first | (simp [entryFrame, mkF, argsToLocals, Value.category, maxLocals]; done) | rfl
def Q_rec (Z : State) (a : Addr) (h0 : Heap) (n0 : Nat) : Option Value → Heap → List Loc → Prop := fun v h L => v = none ∧ Fr n0 L ∧ h = h0
set_option maxRecDepth 65536 in
set_option maxHeartbeats 40000000 in
theorem rm_rec (l : Launch) (Z : State) (a0 : Array Value) (hw : ∀ d ∈ tables_1, d.before a0 Z = true) (ws : List Jvm.Cond) (a : Addr) (h0 : Heap) (n0 : Nat) (Z0 : n0 ≤ h0.size)  :
    MetFree l (⟨"java/lang/Record", "<init>", "()V"⟩ : MethodName) (head1 (Jvm.Cond.code (⟨"java/lang/Record", "<init>", "()V"⟩ : MethodName) jdk_30_method_1_code 1 none :: ws) ({ frames := 1, cells := 0, slots := 0, locals := 12 } : Room)) (fun aX U => aX = #[(.ref a)] ∧ Z.Warmed39 U.vm ∧ U.heap = h0) (fun _ _ _ _ _ => True) (fun _ U o U' => ∃ v L, o = .returned v ∧ (Q_rec Z a h0 n0) v U'.heap L ∧ FrameEnd U o U' L ({ frames := 1, cells := 0, slots := 0, locals := 12 } : Room).cells ({ frames := 1, cells := 0, slots := 0, locals := 12 } : Room).slots) := by
  refine own_met (Q := (Q_rec Z a h0 n0)) (plainFor_of_name (x := (⟨"java/lang/Record", "<init>", "()V"⟩ : MethodName)) pn_3) (fun m => ef_rec m a) ?_
  intro p e s m below meth cD s₁ hx hby hml hret hlk hZ hown hnm X0 e0 hs0
  have hown : s.vm.findClass "java/lang/Record" = some m.cls := hown
  have N0 := Fr.nil n0
  refine own_st (fr' := (mkF m 1 #[.val (.ref a)] [(.ref a)])) (fun t k => XS.aloadN X0.here hx rfl (hb hby d9_0) rfl rfl k) ?_
  obtain ⟨T45, X45, e45, st45⟩ := initO X0 hx hZ hown (hw _ (List.mem_of_getElem? (i := 45) rfl)) (hw _ (List.mem_of_getElem? (i := 16) rfl)) (hw _ (List.mem_of_getElem? (i := 17) rfl)) e0 (g := (mkF m 1 #[.val (.ref a)] [(.ref a)])) rfl (by rw [hml]; rfl) rfl (hb hby d9_1) (by decide) (W := 0) (by show 2 * 0 + _ ≤ _; exact Nat.le_of_eq rfl) (by decide)
  refine own_st (fr' := (mkF m 4 #[.val (.ref a)] [])) st45 ?_
  exact own_retV X45 hx hlk hret (hb hby d9_4) (by decide) (by decide) (⟨rfl, N0, e45⟩)
theorem pd_5 : parseMethodDescriptor "()V" = some ⟨[], none⟩ := by decide +kernel
theorem d8_0 : decode prog_286_method_1_code 0 = .ok (.aload_n 0, 1) := by decide +kernel
theorem d8_1 : decode prog_286_method_1_code 1 = .ok (.invokespecial 1, 3) := by decide +kernel
theorem d8_4 : decode prog_286_method_1_code 4 = .ok (.aload_n 0, 1) := by decide +kernel
theorem d8_5 : decode prog_286_method_1_code 5 = .ok (.aload_n 1, 1) := by decide +kernel
theorem d8_6 : decode prog_286_method_1_code 6 = .ok (.putfield 7, 3) := by decide +kernel
theorem d8_9 : decode prog_286_method_1_code 9 = .ok (.aload_n 0, 1) := by decide +kernel
theorem d8_10 : decode prog_286_method_1_code 10 = .ok (.aload_n 2, 1) := by decide +kernel
theorem d8_11 : decode prog_286_method_1_code 11 = .ok (.putfield 13, 3) := by decide +kernel
theorem d8_14 : decode prog_286_method_1_code 14 = .ok (.return_, 1) := by decide +kernel
theorem pn_4 : plainName "com/example/precedence/precedence/xslt/WhitespaceStripping$NameTest" = true := by first | (simp [plainName, overriddenIn]; done) | decide +kernel
theorem ef_ni00 (m : MethodId) (a : Addr) : entryFrame m #[(.ref a), .null, .null] 3 = mkF m 0 #[.val (.ref a), .val .null, .val .null] [] := by first | (simp [entryFrame, mkF, argsToLocals, Value.category, maxLocals]; done) | rfl
def Q_ni00 (Z : State) (a : Addr) (h0 : Heap) (n0 : Nat) : Option Value → Heap → List Loc → Prop := fun v h L => v = none ∧ Fr n0 L ∧ Keep h0 h [a] ∧ Fld Z h a "com/example/precedence/precedence/xslt/WhitespaceStripping$NameTest" "namespaceUri" "Ljava/lang/String;" .null ∧ Fld Z h a "com/example/precedence/precedence/xslt/WhitespaceStripping$NameTest" "localName" "Ljava/lang/String;" .null
set_option maxRecDepth 65536 in
set_option maxHeartbeats 40000000 in
theorem rm_ni00 (l : Launch) (Z : State) (a0 : Array Value) (hw : ∀ d ∈ tables_1, d.before a0 Z = true) (ws : List Jvm.Cond) (a : Addr) (h0 : Heap) (n0 : Nat) (Z0 : n0 ≤ h0.size) (F1 : Fld Z h0 a "com/example/precedence/precedence/xslt/WhitespaceStripping$NameTest" "namespaceUri" "Ljava/lang/String;" .null) (F2 : Fld Z h0 a "com/example/precedence/precedence/xslt/WhitespaceStripping$NameTest" "localName" "Ljava/lang/String;" .null) (E0 : Exa Z h0 a "com/example/precedence/precedence/xslt/WhitespaceStripping$NameTest") (ge_a : n0 ≤ a) :
    MetFree l (⟨"com/example/precedence/precedence/xslt/WhitespaceStripping$NameTest", "<init>", "(Ljava/lang/String;Ljava/lang/String;)V"⟩ : MethodName) (head1 (Jvm.Cond.code (⟨"com/example/precedence/precedence/xslt/WhitespaceStripping$NameTest", "<init>", "(Ljava/lang/String;Ljava/lang/String;)V"⟩ : MethodName) prog_286_method_1_code 3 none :: ws) ({ frames := 2, cells := 0, slots := 0, locals := 24 } : Room)) (fun aX U => aX = #[(.ref a), .null, .null] ∧ Z.Warmed39 U.vm ∧ U.heap = h0) (fun _ _ _ _ _ => True) (fun _ U o U' => ∃ v L, o = .returned v ∧ (Q_ni00 Z a h0 n0) v U'.heap L ∧ FrameEnd U o U' L ({ frames := 2, cells := 0, slots := 0, locals := 24 } : Room).cells ({ frames := 2, cells := 0, slots := 0, locals := 24 } : Room).slots) := by
  refine own_met (Q := (Q_ni00 Z a h0 n0)) (plainFor_of_name (x := (⟨"com/example/precedence/precedence/xslt/WhitespaceStripping$NameTest", "<init>", "(Ljava/lang/String;Ljava/lang/String;)V"⟩ : MethodName)) pn_4) (fun m => ef_ni00 m a) ?_
  intro p e s m below meth cD s₁ hx hby hml hret hlk hZ hown hnm X0 e0 hs0
  have hown : s.vm.findClass "com/example/precedence/precedence/xslt/WhitespaceStripping$NameTest" = some m.cls := hown
  have N0 := Fr.nil n0
  refine own_st (fr' := (mkF m 1 #[.val (.ref a), .val .null, .val .null] [(.ref a)])) (fun t k => XS.aloadN X0.here hx rfl (hb hby d8_0) rfl rfl k) ?_
  refine own_callN X0 hx hZ (y := (⟨"java/lang/Record", "<init>", "()V"⟩ : MethodName)) hown rfl (hw _ (List.mem_of_getElem? (i := 40) rfl)) (hw _ (List.mem_of_getElem? (i := 41) rfl)) (hw _ (List.mem_of_getElem? (i := 43) rfl)) (hw _ (List.mem_of_getElem? (i := 44) rfl)) (by decide) (a := a) (argsL := []) (rest := []) (W := 0) (rm_rec l Z a0 hw [] a h0 n0 Z0 ) e0 (by rw [hml]; rfl) (lenOf pd_5 rfl) rfl (Nat.le_of_eq rfl) (hb hby d8_1) (by decide) (by decide) (by decide) (by decide) ?_
  intro v46 T46 L46 X46 hQ46
  obtain ⟨rfl, Nq46, eq46⟩ := hQ46
  have N46 := Fr.app N0 Nq46
  refine own_st (fr' := (mkF m 5 #[.val (.ref a), .val .null, .val .null] [(.ref a)])) (fun t k => XS.aloadN X46.here hx rfl (hb hby d8_4) rfl rfl k) ?_
  refine own_st (fr' := (mkF m 6 #[.val (.ref a), .val .null, .val .null] [.null, (.ref a)])) (fun t k => XS.aloadN X46.here hx rfl (hb hby d8_5) rfl rfl k) ?_
  obtain ⟨T47, h47, X47, e47, W47, st47⟩ := putF X46 hx hZ hown (host := "") (Or.inl (hw _ (List.mem_of_getElem? (i := 46) rfl))) Via.refl eq46 F1 E0 (Or.inr ⟨(hw _ (List.mem_of_getElem? (i := 47) rfl)), rfl, hnm⟩) (hw _ (List.mem_of_getElem? (i := 35) rfl)) (ty := (.object "java/lang/String")) (by decide) (rfl) (rfl) (g := (mkF m 6 #[.val (.ref a), .val .null, .val .null] [.null, (.ref a)])) rfl rfl (hb hby d8_6)
  have Fw47 := Fld.same W47 F1
  have N47 := Fr.snoc X47 N46 ge_a
  refine own_st (fr' := (mkF m 9 #[.val (.ref a), .val .null, .val .null] [])) st47 ?_
  refine own_st (fr' := (mkF m 10 #[.val (.ref a), .val .null, .val .null] [(.ref a)])) (fun t k => XS.aloadN X47.here hx rfl (hb hby d8_9) rfl rfl k) ?_
  refine own_st (fr' := (mkF m 11 #[.val (.ref a), .val .null, .val .null] [.null, (.ref a)])) (fun t k => XS.aloadN X47.here hx rfl (hb hby d8_10) rfl rfl k) ?_
  obtain ⟨T48, h48, X48, e48, W48, st48⟩ := putF X47 hx hZ hown (host := "") (Or.inl (hw _ (List.mem_of_getElem? (i := 48) rfl))) Via.refl e47 (Fld.other W47 F2 (Or.inr (Jvm.RoadKit.slot_ne (C := "com/example/precedence/precedence/xslt/WhitespaceStripping$NameTest") (Or.inr (hw _ (List.mem_of_getElem? (i := 49) rfl))) (Or.inr (hw _ (List.mem_of_getElem? (i := 47) rfl))) (by decide) (t := (.object "java/lang/String")) (t' := (.object "java/lang/String")) (by decide) (by decide)))) (Exa.wr W47 E0) (Or.inr ⟨(hw _ (List.mem_of_getElem? (i := 49) rfl)), rfl, hnm⟩) (hw _ (List.mem_of_getElem? (i := 35) rfl)) (ty := (.object "java/lang/String")) (by decide) (rfl) (rfl) (g := (mkF m 11 #[.val (.ref a), .val .null, .val .null] [.null, (.ref a)])) rfl rfl (hb hby d8_11)
  have Fw48 := Fld.same W48 (Fld.other W47 F2 (Or.inr (Jvm.RoadKit.slot_ne (C := "com/example/precedence/precedence/xslt/WhitespaceStripping$NameTest") (Or.inr (hw _ (List.mem_of_getElem? (i := 49) rfl))) (Or.inr (hw _ (List.mem_of_getElem? (i := 47) rfl))) (by decide) (t := (.object "java/lang/String")) (t' := (.object "java/lang/String")) (by decide) (by decide))))
  have N48 := Fr.snoc X48 N47 ge_a
  refine own_st (fr' := (mkF m 14 #[.val (.ref a), .val .null, .val .null] [])) st48 ?_
  exact own_retV X48 hx hlk hret (hb hby d8_14) (by decide) (by decide) (by rw [e48]; exact ⟨rfl, N48, (Keep.wr (Keep.wr (Keep.refl h0 [a]) W47 (Or.inl (List.mem_of_getElem? (i := 0) rfl))) W48 (Or.inl (List.mem_of_getElem? (i := 0) rfl))), (Fld.other W48 Fw47 (Or.inr (Jvm.RoadKit.slot_ne (C := "com/example/precedence/precedence/xslt/WhitespaceStripping$NameTest") (Or.inr (hw _ (List.mem_of_getElem? (i := 47) rfl))) (Or.inr (hw _ (List.mem_of_getElem? (i := 49) rfl))) (by decide) (t := (.object "java/lang/String")) (t' := (.object "java/lang/String")) (by decide) (by decide)))), Fw48⟩)
theorem d10_0 : decode prog_286_method_3_code 0 = .ok (.aload_n 0, 1) := by decide +kernel
theorem d10_1 : decode prog_286_method_3_code 1 = .ok (.getfield 7, 3) := by decide +kernel
theorem d10_4 : decode prog_286_method_3_code 4 = .ok (.ifnull 15, 3) := by decide +kernel
theorem d10_19 : decode prog_286_method_3_code 19 = .ok (.aload_n 0, 1) := by decide +kernel
theorem d10_20 : decode prog_286_method_3_code 20 = .ok (.getfield 7, 3) := by decide +kernel
theorem d10_23 : decode prog_286_method_3_code 23 = .ok (.ifnonnull 10, 3) := by decide +kernel
theorem d10_26 : decode prog_286_method_3_code 26 = .ok (.aload_n 0, 1) := by decide +kernel
theorem d10_27 : decode prog_286_method_3_code 27 = .ok (.getfield 13, 3) := by decide +kernel
theorem d10_30 : decode prog_286_method_3_code 30 = .ok (.ifnull 10, 3) := by decide +kernel
theorem d10_40 : decode prog_286_method_3_code 40 = .ok (.ldc2_w 33, 3) := by decide +kernel
theorem d10_43 : decode prog_286_method_3_code 43 = .ok (.dstore_n 1, 1) := by decide +kernel
theorem d10_44 : decode prog_286_method_3_code 44 = .ok (.dload_n 1, 1) := by decide +kernel
theorem d10_45 : decode prog_286_method_3_code 45 = .ok (.dreturn, 1) := by decide +kernel
theorem ef_pr00 (m : MethodId) (a : Addr) : entryFrame m #[(.ref a)] 3 = mkF m 0 #[.val (.ref a), .unset, .unset] [] := by first | (simp [entryFrame, mkF, argsToLocals, Value.category, maxLocals]; done) | rfl
def Q_pr00 (Z : State) (a : Addr) (h0 : Heap) (n0 : Nat) : Option Value → Heap → List Loc → Prop := fun v h L => v = some (.double (13826050856027422720 : UInt64)) ∧ Fr n0 L ∧ h = h0
set_option maxRecDepth 65536 in
set_option maxHeartbeats 40000000 in
theorem rm_pr00 (l : Launch) (Z : State) (a0 : Array Value) (hw : ∀ d ∈ tables_1, d.before a0 Z = true) (ws : List Jvm.Cond) (a : Addr) (h0 : Heap) (n0 : Nat) (Z0 : n0 ≤ h0.size) (F1 : Fld Z h0 a "com/example/precedence/precedence/xslt/WhitespaceStripping$NameTest" "namespaceUri" "Ljava/lang/String;" .null) (F2 : Fld Z h0 a "com/example/precedence/precedence/xslt/WhitespaceStripping$NameTest" "localName" "Ljava/lang/String;" .null) :
    MetFree l (⟨"com/example/precedence/precedence/xslt/WhitespaceStripping$NameTest", "priority", "()D"⟩ : MethodName) (head1 (Jvm.Cond.code (⟨"com/example/precedence/precedence/xslt/WhitespaceStripping$NameTest", "priority", "()D"⟩ : MethodName) prog_286_method_3_code 3 (some .double) :: ws) ({ frames := 0, cells := 0, slots := 0, locals := 0 } : Room)) (fun aX U => aX = #[(.ref a)] ∧ Z.Warmed39 U.vm ∧ U.heap = h0) (fun _ _ _ _ _ => True) (fun _ U o U' => ∃ v L, o = .returned v ∧ (Q_pr00 Z a h0 n0) v U'.heap L ∧ FrameEnd U o U' L ({ frames := 0, cells := 0, slots := 0, locals := 0 } : Room).cells ({ frames := 0, cells := 0, slots := 0, locals := 0 } : Room).slots) := by
  refine own_met (Q := (Q_pr00 Z a h0 n0)) (plainFor_of_name (x := (⟨"com/example/precedence/precedence/xslt/WhitespaceStripping$NameTest", "priority", "()D"⟩ : MethodName)) pn_4) (fun m => ef_pr00 m a) ?_
  intro p e s m below meth cD s₁ hx hby hml hret hlk hZ hown hnm X0 e0 hs0
  have hown : s.vm.findClass "com/example/precedence/precedence/xslt/WhitespaceStripping$NameTest" = some m.cls := hown
  have N0 := Fr.nil n0
  refine own_st (fr' := (mkF m 1 #[.val (.ref a), .unset, .unset] [(.ref a)])) (fun t k => XS.aloadN X0.here hx rfl (hb hby d10_0) rfl rfl k) ?_
  obtain ⟨T49, X49, e49, st49⟩ := getF X0 hx hZ hown (host := "") (Or.inl (hw _ (List.mem_of_getElem? (i := 46) rfl))) Via.refl e0 F1 (g := (mkF m 1 #[.val (.ref a), .unset, .unset] [(.ref a)])) rfl rfl (hb hby d10_1)
  refine own_st (fr' := (mkF m 4 #[.val (.ref a), .unset, .unset] [.null])) st49 ?_
  refine own_st (fr' := (mkF m 19 #[.val (.ref a), .unset, .unset] [])) (fun t k => XS.ifnullYes X49.here hx rfl (pc0 := 4) (pc' := 19) rfl (hb hby d10_4) rfl (by decide) (by decide) k) ?_
  refine own_st (fr' := (mkF m 20 #[.val (.ref a), .unset, .unset] [(.ref a)])) (fun t k => XS.aloadN X49.here hx rfl (hb hby d10_19) rfl rfl k) ?_
  obtain ⟨T50, X50, e50, st50⟩ := getF X49 hx hZ hown (host := "") (Or.inl (hw _ (List.mem_of_getElem? (i := 46) rfl))) Via.refl e49 F1 (g := (mkF m 20 #[.val (.ref a), .unset, .unset] [(.ref a)])) rfl rfl (hb hby d10_20)
  refine own_st (fr' := (mkF m 23 #[.val (.ref a), .unset, .unset] [.null])) st50 ?_
  refine own_st (fr' := (mkF m 26 #[.val (.ref a), .unset, .unset] [])) (fun t k => XS.ifnonnullNo X50.here hx rfl (hb hby d10_23) rfl k) ?_
  refine own_st (fr' := (mkF m 27 #[.val (.ref a), .unset, .unset] [(.ref a)])) (fun t k => XS.aloadN X50.here hx rfl (hb hby d10_26) rfl rfl k) ?_
  obtain ⟨T51, X51, e51, st51⟩ := getF X50 hx hZ hown (host := "") (Or.inl (hw _ (List.mem_of_getElem? (i := 48) rfl))) Via.refl e50 F2 (g := (mkF m 27 #[.val (.ref a), .unset, .unset] [(.ref a)])) rfl rfl (hb hby d10_27)
  refine own_st (fr' := (mkF m 30 #[.val (.ref a), .unset, .unset] [.null])) st51 ?_
  refine own_st (fr' := (mkF m 40 #[.val (.ref a), .unset, .unset] [])) (fun t k => XS.ifnullYes X51.here hx rfl (pc0 := 30) (pc' := 40) rfl (hb hby d10_30) rfl (by decide) (by decide) k) ?_
  refine own_st (fr' := (mkF m 43 #[.val (.ref a), .unset, .unset] [(.double (13826050856027422720 : UInt64))])) (fun t k => X51.ldc2DoubleC hx hown (mvT hZ (hw _ (List.mem_of_getElem? (i := 57) rfl))) (g := (mkF m 40 #[.val (.ref a), .unset, .unset] [])) rfl (hb hby d10_40) t k) ?_
  refine own_st (fr' := (mkF m 44 #[.val (.ref a), .val (.double (13826050856027422720 : UInt64)), .second] [])) (fun t k => XS.dstoreN X51.here hx rfl (hb hby d10_43) rfl  (l' := #[.val (.ref a), .val (.double (13826050856027422720 : UInt64)), .second]) rfl k) ?_
  refine own_st (fr' := (mkF m 45 #[.val (.ref a), .val (.double (13826050856027422720 : UInt64)), .second] [(.double (13826050856027422720 : UInt64))])) (fun t k => XS.dloadN X51.here hx rfl (hb hby d10_44) rfl  k) ?_
  exact own_ret X51 hx hlk hret rfl (Or.inr (Or.inr (Or.inl ⟨rfl, rfl, _, rfl⟩))) (hb hby d10_45) (by decide) (by decide) (⟨rfl, N0, e51⟩)
theorem ef_ni01 (m : MethodId) (a : Addr) (u2 : Addr) : entryFrame m #[(.ref a), .null, (.ref u2)] 3 = mkF m 0 #[.val (.ref a), .val .null, .val (.ref u2)] [] := by first | (simp [entryFrame, mkF, argsToLocals, Value.category, maxLocals]; done) | rfl
def Q_ni01 (Z : State) (a : Addr) (u2 : Addr) (h0 : Heap) (n0 : Nat) : Option Value → Heap → List Loc → Prop := fun v h L => v = none ∧ Fr n0 L ∧ Keep h0 h [a] ∧ Fld Z h a "com/example/precedence/precedence/xslt/WhitespaceStripping$NameTest" "namespaceUri" "Ljava/lang/String;" .null ∧ Fld Z h a "com/example/precedence/precedence/xslt/WhitespaceStripping$NameTest" "localName" "Ljava/lang/String;" (.ref u2)
set_option maxRecDepth 65536 in
set_option maxHeartbeats 40000000 in
theorem rm_ni01 (l : Launch) (Z : State) (a0 : Array Value) (hw : ∀ d ∈ tables_1, d.before a0 Z = true) (ws : List Jvm.Cond) (a : Addr) (u2 : Addr) (h0 : Heap) (n0 : Nat) (Z0 : n0 ≤ h0.size) (F1 : Fld Z h0 a "com/example/precedence/precedence/xslt/WhitespaceStripping$NameTest" "namespaceUri" "Ljava/lang/String;" .null) (F2 : Fld Z h0 a "com/example/precedence/precedence/xslt/WhitespaceStripping$NameTest" "localName" "Ljava/lang/String;" .null) (E0 : Exa Z h0 a "com/example/precedence/precedence/xslt/WhitespaceStripping$NameTest") (ge_a : n0 ≤ a) :
    MetFree l (⟨"com/example/precedence/precedence/xslt/WhitespaceStripping$NameTest", "<init>", "(Ljava/lang/String;Ljava/lang/String;)V"⟩ : MethodName) (head1 (Jvm.Cond.code (⟨"com/example/precedence/precedence/xslt/WhitespaceStripping$NameTest", "<init>", "(Ljava/lang/String;Ljava/lang/String;)V"⟩ : MethodName) prog_286_method_1_code 3 none :: ws) ({ frames := 2, cells := 0, slots := 0, locals := 24 } : Room)) (fun aX U => aX = #[(.ref a), .null, (.ref u2)] ∧ Z.Warmed39 U.vm ∧ U.heap = h0) (fun _ _ _ _ _ => True) (fun _ U o U' => ∃ v L, o = .returned v ∧ (Q_ni01 Z a u2 h0 n0) v U'.heap L ∧ FrameEnd U o U' L ({ frames := 2, cells := 0, slots := 0, locals := 24 } : Room).cells ({ frames := 2, cells := 0, slots := 0, locals := 24 } : Room).slots) := by
  refine own_met (Q := (Q_ni01 Z a u2 h0 n0)) (plainFor_of_name (x := (⟨"com/example/precedence/precedence/xslt/WhitespaceStripping$NameTest", "<init>", "(Ljava/lang/String;Ljava/lang/String;)V"⟩ : MethodName)) pn_4) (fun m => ef_ni01 m a u2) ?_
  intro p e s m below meth cD s₁ hx hby hml hret hlk hZ hown hnm X0 e0 hs0
  have hown : s.vm.findClass "com/example/precedence/precedence/xslt/WhitespaceStripping$NameTest" = some m.cls := hown
  have N0 := Fr.nil n0
  refine own_st (fr' := (mkF m 1 #[.val (.ref a), .val .null, .val (.ref u2)] [(.ref a)])) (fun t k => XS.aloadN X0.here hx rfl (hb hby d8_0) rfl rfl k) ?_
  refine own_callN X0 hx hZ (y := (⟨"java/lang/Record", "<init>", "()V"⟩ : MethodName)) hown rfl (hw _ (List.mem_of_getElem? (i := 40) rfl)) (hw _ (List.mem_of_getElem? (i := 41) rfl)) (hw _ (List.mem_of_getElem? (i := 43) rfl)) (hw _ (List.mem_of_getElem? (i := 44) rfl)) (by decide) (a := a) (argsL := []) (rest := []) (W := 0) (rm_rec l Z a0 hw [] a h0 n0 Z0 ) e0 (by rw [hml]; rfl) (lenOf pd_5 rfl) rfl (Nat.le_of_eq rfl) (hb hby d8_1) (by decide) (by decide) (by decide) (by decide) ?_
  intro v52 T52 L52 X52 hQ52
  obtain ⟨rfl, Nq52, eq52⟩ := hQ52
  have N52 := Fr.app N0 Nq52
  refine own_st (fr' := (mkF m 5 #[.val (.ref a), .val .null, .val (.ref u2)] [(.ref a)])) (fun t k => XS.aloadN X52.here hx rfl (hb hby d8_4) rfl rfl k) ?_
  refine own_st (fr' := (mkF m 6 #[.val (.ref a), .val .null, .val (.ref u2)] [.null, (.ref a)])) (fun t k => XS.aloadN X52.here hx rfl (hb hby d8_5) rfl rfl k) ?_
  obtain ⟨T53, h53, X53, e53, W53, st53⟩ := putF X52 hx hZ hown (host := "") (Or.inl (hw _ (List.mem_of_getElem? (i := 46) rfl))) Via.refl eq52 F1 E0 (Or.inr ⟨(hw _ (List.mem_of_getElem? (i := 47) rfl)), rfl, hnm⟩) (hw _ (List.mem_of_getElem? (i := 35) rfl)) (ty := (.object "java/lang/String")) (by decide) (rfl) (rfl) (g := (mkF m 6 #[.val (.ref a), .val .null, .val (.ref u2)] [.null, (.ref a)])) rfl rfl (hb hby d8_6)
  have Fw53 := Fld.same W53 F1
  have N53 := Fr.snoc X53 N52 ge_a
  refine own_st (fr' := (mkF m 9 #[.val (.ref a), .val .null, .val (.ref u2)] [])) st53 ?_
  refine own_st (fr' := (mkF m 10 #[.val (.ref a), .val .null, .val (.ref u2)] [(.ref a)])) (fun t k => XS.aloadN X53.here hx rfl (hb hby d8_9) rfl rfl k) ?_
  refine own_st (fr' := (mkF m 11 #[.val (.ref a), .val .null, .val (.ref u2)] [(.ref u2), (.ref a)])) (fun t k => XS.aloadN X53.here hx rfl (hb hby d8_10) rfl rfl k) ?_
  obtain ⟨T54, h54, X54, e54, W54, st54⟩ := putF X53 hx hZ hown (host := "") (Or.inl (hw _ (List.mem_of_getElem? (i := 48) rfl))) Via.refl e53 (Fld.other W53 F2 (Or.inr (Jvm.RoadKit.slot_ne (C := "com/example/precedence/precedence/xslt/WhitespaceStripping$NameTest") (Or.inr (hw _ (List.mem_of_getElem? (i := 49) rfl))) (Or.inr (hw _ (List.mem_of_getElem? (i := 47) rfl))) (by decide) (t := (.object "java/lang/String")) (t' := (.object "java/lang/String")) (by decide) (by decide)))) (Exa.wr W53 E0) (Or.inr ⟨(hw _ (List.mem_of_getElem? (i := 49) rfl)), rfl, hnm⟩) (hw _ (List.mem_of_getElem? (i := 35) rfl)) (ty := (.object "java/lang/String")) (by decide) (rfl) (rfl) (g := (mkF m 11 #[.val (.ref a), .val .null, .val (.ref u2)] [(.ref u2), (.ref a)])) rfl rfl (hb hby d8_11)
  have Fw54 := Fld.same W54 (Fld.other W53 F2 (Or.inr (Jvm.RoadKit.slot_ne (C := "com/example/precedence/precedence/xslt/WhitespaceStripping$NameTest") (Or.inr (hw _ (List.mem_of_getElem? (i := 49) rfl))) (Or.inr (hw _ (List.mem_of_getElem? (i := 47) rfl))) (by decide) (t := (.object "java/lang/String")) (t' := (.object "java/lang/String")) (by decide) (by decide))))
  have N54 := Fr.snoc X54 N53 ge_a
  refine own_st (fr' := (mkF m 14 #[.val (.ref a), .val .null, .val (.ref u2)] [])) st54 ?_
  exact own_retV X54 hx hlk hret (hb hby d8_14) (by decide) (by decide) (by rw [e54]; exact ⟨rfl, N54, (Keep.wr (Keep.wr (Keep.refl h0 [a]) W53 (Or.inl (List.mem_of_getElem? (i := 0) rfl))) W54 (Or.inl (List.mem_of_getElem? (i := 0) rfl))), (Fld.other W54 Fw53 (Or.inr (Jvm.RoadKit.slot_ne (C := "com/example/precedence/precedence/xslt/WhitespaceStripping$NameTest") (Or.inr (hw _ (List.mem_of_getElem? (i := 47) rfl))) (Or.inr (hw _ (List.mem_of_getElem? (i := 49) rfl))) (by decide) (t := (.object "java/lang/String")) (t' := (.object "java/lang/String")) (by decide) (by decide)))), Fw54⟩)
theorem d10_33 : decode prog_286_method_3_code 33 = .ok (.ldc2_w 31, 3) := by decide +kernel
theorem d10_36 : decode prog_286_method_3_code 36 = .ok (.dstore_n 1, 1) := by decide +kernel
theorem d10_37 : decode prog_286_method_3_code 37 = .ok (.goto 7, 3) := by decide +kernel
theorem ef_pr01 (m : MethodId) (a : Addr) : entryFrame m #[(.ref a)] 3 = mkF m 0 #[.val (.ref a), .unset, .unset] [] := by first | (simp [entryFrame, mkF, argsToLocals, Value.category, maxLocals]; done) | rfl
def Q_pr01 (Z : State) (a : Addr) (u2 : Addr) (h0 : Heap) (n0 : Nat) : Option Value → Heap → List Loc → Prop := fun v h L => v = some (.double (13821547256400052224 : UInt64)) ∧ Fr n0 L ∧ h = h0
set_option maxRecDepth 65536 in
set_option maxHeartbeats 40000000 in
theorem rm_pr01 (l : Launch) (Z : State) (a0 : Array Value) (hw : ∀ d ∈ tables_1, d.before a0 Z = true) (ws : List Jvm.Cond) (a : Addr) (u2 : Addr) (h0 : Heap) (n0 : Nat) (Z0 : n0 ≤ h0.size) (F1 : Fld Z h0 a "com/example/precedence/precedence/xslt/WhitespaceStripping$NameTest" "namespaceUri" "Ljava/lang/String;" .null) (F2 : Fld Z h0 a "com/example/precedence/precedence/xslt/WhitespaceStripping$NameTest" "localName" "Ljava/lang/String;" (.ref u2)) :
    MetFree l (⟨"com/example/precedence/precedence/xslt/WhitespaceStripping$NameTest", "priority", "()D"⟩ : MethodName) (head1 (Jvm.Cond.code (⟨"com/example/precedence/precedence/xslt/WhitespaceStripping$NameTest", "priority", "()D"⟩ : MethodName) prog_286_method_3_code 3 (some .double) :: ws) ({ frames := 0, cells := 0, slots := 0, locals := 0 } : Room)) (fun aX U => aX = #[(.ref a)] ∧ Z.Warmed39 U.vm ∧ U.heap = h0) (fun _ _ _ _ _ => True) (fun _ U o U' => ∃ v L, o = .returned v ∧ (Q_pr01 Z a u2 h0 n0) v U'.heap L ∧ FrameEnd U o U' L ({ frames := 0, cells := 0, slots := 0, locals := 0 } : Room).cells ({ frames := 0, cells := 0, slots := 0, locals := 0 } : Room).slots) := by
  refine own_met (Q := (Q_pr01 Z a u2 h0 n0)) (plainFor_of_name (x := (⟨"com/example/precedence/precedence/xslt/WhitespaceStripping$NameTest", "priority", "()D"⟩ : MethodName)) pn_4) (fun m => ef_pr01 m a) ?_
  intro p e s m below meth cD s₁ hx hby hml hret hlk hZ hown hnm X0 e0 hs0
  have hown : s.vm.findClass "com/example/precedence/precedence/xslt/WhitespaceStripping$NameTest" = some m.cls := hown
  have N0 := Fr.nil n0
  refine own_st (fr' := (mkF m 1 #[.val (.ref a), .unset, .unset] [(.ref a)])) (fun t k => XS.aloadN X0.here hx rfl (hb hby d10_0) rfl rfl k) ?_
  obtain ⟨T55, X55, e55, st55⟩ := getF X0 hx hZ hown (host := "") (Or.inl (hw _ (List.mem_of_getElem? (i := 46) rfl))) Via.refl e0 F1 (g := (mkF m 1 #[.val (.ref a), .unset, .unset] [(.ref a)])) rfl rfl (hb hby d10_1)
  refine own_st (fr' := (mkF m 4 #[.val (.ref a), .unset, .unset] [.null])) st55 ?_
  refine own_st (fr' := (mkF m 19 #[.val (.ref a), .unset, .unset] [])) (fun t k => XS.ifnullYes X55.here hx rfl (pc0 := 4) (pc' := 19) rfl (hb hby d10_4) rfl (by decide) (by decide) k) ?_
  refine own_st (fr' := (mkF m 20 #[.val (.ref a), .unset, .unset] [(.ref a)])) (fun t k => XS.aloadN X55.here hx rfl (hb hby d10_19) rfl rfl k) ?_
  obtain ⟨T56, X56, e56, st56⟩ := getF X55 hx hZ hown (host := "") (Or.inl (hw _ (List.mem_of_getElem? (i := 46) rfl))) Via.refl e55 F1 (g := (mkF m 20 #[.val (.ref a), .unset, .unset] [(.ref a)])) rfl rfl (hb hby d10_20)
  refine own_st (fr' := (mkF m 23 #[.val (.ref a), .unset, .unset] [.null])) st56 ?_
  refine own_st (fr' := (mkF m 26 #[.val (.ref a), .unset, .unset] [])) (fun t k => XS.ifnonnullNo X56.here hx rfl (hb hby d10_23) rfl k) ?_
  refine own_st (fr' := (mkF m 27 #[.val (.ref a), .unset, .unset] [(.ref a)])) (fun t k => XS.aloadN X56.here hx rfl (hb hby d10_26) rfl rfl k) ?_
  obtain ⟨T57, X57, e57, st57⟩ := getF X56 hx hZ hown (host := "") (Or.inl (hw _ (List.mem_of_getElem? (i := 48) rfl))) Via.refl e56 F2 (g := (mkF m 27 #[.val (.ref a), .unset, .unset] [(.ref a)])) rfl rfl (hb hby d10_27)
  refine own_st (fr' := (mkF m 30 #[.val (.ref a), .unset, .unset] [(.ref u2)])) st57 ?_
  refine own_st (fr' := (mkF m 33 #[.val (.ref a), .unset, .unset] [])) (fun t k => XS.ifnullNo X57.here hx rfl (hb hby d10_30) rfl k) ?_
  refine own_st (fr' := (mkF m 36 #[.val (.ref a), .unset, .unset] [(.double (13821547256400052224 : UInt64))])) (fun t k => X57.ldc2DoubleC hx hown (mvT hZ (hw _ (List.mem_of_getElem? (i := 55) rfl))) (g := (mkF m 33 #[.val (.ref a), .unset, .unset] [])) rfl (hb hby d10_33) t k) ?_
  refine own_st (fr' := (mkF m 37 #[.val (.ref a), .val (.double (13821547256400052224 : UInt64)), .second] [])) (fun t k => XS.dstoreN X57.here hx rfl (hb hby d10_36) rfl  (l' := #[.val (.ref a), .val (.double (13821547256400052224 : UInt64)), .second]) rfl k) ?_
  refine own_st (fr' := (mkF m 44 #[.val (.ref a), .val (.double (13821547256400052224 : UInt64)), .second] [])) (fun t k => XS.goto X57.here hx rfl (pc0 := 37) (pc' := 44) rfl (hb hby d10_37) (by decide) (by decide) k) ?_
  refine own_st (fr' := (mkF m 45 #[.val (.ref a), .val (.double (13821547256400052224 : UInt64)), .second] [(.double (13821547256400052224 : UInt64))])) (fun t k => XS.dloadN X57.here hx rfl (hb hby d10_44) rfl  k) ?_
  exact own_ret X57 hx hlk hret rfl (Or.inr (Or.inr (Or.inl ⟨rfl, rfl, _, rfl⟩))) (hb hby d10_45) (by decide) (by decide) (⟨rfl, N0, e57⟩)
theorem ef_ni10 (m : MethodId) (a : Addr) (u1 : Addr) : entryFrame m #[(.ref a), (.ref u1), .null] 3 = mkF m 0 #[.val (.ref a), .val (.ref u1), .val .null] [] := by first | (simp [entryFrame, mkF, argsToLocals, Value.category, maxLocals]; done) | rfl
def Q_ni10 (Z : State) (a : Addr) (u1 : Addr) (h0 : Heap) (n0 : Nat) : Option Value → Heap → List Loc → Prop := fun v h L => v = none ∧ Fr n0 L ∧ Keep h0 h [a] ∧ Fld Z h a "com/example/precedence/precedence/xslt/WhitespaceStripping$NameTest" "namespaceUri" "Ljava/lang/String;" (.ref u1) ∧ Fld Z h a "com/example/precedence/precedence/xslt/WhitespaceStripping$NameTest" "localName" "Ljava/lang/String;" .null
set_option maxRecDepth 65536 in
set_option maxHeartbeats 40000000 in
theorem rm_ni10 (l : Launch) (Z : State) (a0 : Array Value) (hw : ∀ d ∈ tables_1, d.before a0 Z = true) (ws : List Jvm.Cond) (a : Addr) (u1 : Addr) (h0 : Heap) (n0 : Nat) (Z0 : n0 ≤ h0.size) (F1 : Fld Z h0 a "com/example/precedence/precedence/xslt/WhitespaceStripping$NameTest" "namespaceUri" "Ljava/lang/String;" .null) (F2 : Fld Z h0 a "com/example/precedence/precedence/xslt/WhitespaceStripping$NameTest" "localName" "Ljava/lang/String;" .null) (E0 : Exa Z h0 a "com/example/precedence/precedence/xslt/WhitespaceStripping$NameTest") (ge_a : n0 ≤ a) :
    MetFree l (⟨"com/example/precedence/precedence/xslt/WhitespaceStripping$NameTest", "<init>", "(Ljava/lang/String;Ljava/lang/String;)V"⟩ : MethodName) (head1 (Jvm.Cond.code (⟨"com/example/precedence/precedence/xslt/WhitespaceStripping$NameTest", "<init>", "(Ljava/lang/String;Ljava/lang/String;)V"⟩ : MethodName) prog_286_method_1_code 3 none :: ws) ({ frames := 2, cells := 0, slots := 0, locals := 24 } : Room)) (fun aX U => aX = #[(.ref a), (.ref u1), .null] ∧ Z.Warmed39 U.vm ∧ U.heap = h0) (fun _ _ _ _ _ => True) (fun _ U o U' => ∃ v L, o = .returned v ∧ (Q_ni10 Z a u1 h0 n0) v U'.heap L ∧ FrameEnd U o U' L ({ frames := 2, cells := 0, slots := 0, locals := 24 } : Room).cells ({ frames := 2, cells := 0, slots := 0, locals := 24 } : Room).slots) := by
  refine own_met (Q := (Q_ni10 Z a u1 h0 n0)) (plainFor_of_name (x := (⟨"com/example/precedence/precedence/xslt/WhitespaceStripping$NameTest", "<init>", "(Ljava/lang/String;Ljava/lang/String;)V"⟩ : MethodName)) pn_4) (fun m => ef_ni10 m a u1) ?_
  intro p e s m below meth cD s₁ hx hby hml hret hlk hZ hown hnm X0 e0 hs0
  have hown : s.vm.findClass "com/example/precedence/precedence/xslt/WhitespaceStripping$NameTest" = some m.cls := hown
  have N0 := Fr.nil n0
  refine own_st (fr' := (mkF m 1 #[.val (.ref a), .val (.ref u1), .val .null] [(.ref a)])) (fun t k => XS.aloadN X0.here hx rfl (hb hby d8_0) rfl rfl k) ?_
  refine own_callN X0 hx hZ (y := (⟨"java/lang/Record", "<init>", "()V"⟩ : MethodName)) hown rfl (hw _ (List.mem_of_getElem? (i := 40) rfl)) (hw _ (List.mem_of_getElem? (i := 41) rfl)) (hw _ (List.mem_of_getElem? (i := 43) rfl)) (hw _ (List.mem_of_getElem? (i := 44) rfl)) (by decide) (a := a) (argsL := []) (rest := []) (W := 0) (rm_rec l Z a0 hw [] a h0 n0 Z0 ) e0 (by rw [hml]; rfl) (lenOf pd_5 rfl) rfl (Nat.le_of_eq rfl) (hb hby d8_1) (by decide) (by decide) (by decide) (by decide) ?_
  intro v58 T58 L58 X58 hQ58
  obtain ⟨rfl, Nq58, eq58⟩ := hQ58
  have N58 := Fr.app N0 Nq58
  refine own_st (fr' := (mkF m 5 #[.val (.ref a), .val (.ref u1), .val .null] [(.ref a)])) (fun t k => XS.aloadN X58.here hx rfl (hb hby d8_4) rfl rfl k) ?_
  refine own_st (fr' := (mkF m 6 #[.val (.ref a), .val (.ref u1), .val .null] [(.ref u1), (.ref a)])) (fun t k => XS.aloadN X58.here hx rfl (hb hby d8_5) rfl rfl k) ?_
  obtain ⟨T59, h59, X59, e59, W59, st59⟩ := putF X58 hx hZ hown (host := "") (Or.inl (hw _ (List.mem_of_getElem? (i := 46) rfl))) Via.refl eq58 F1 E0 (Or.inr ⟨(hw _ (List.mem_of_getElem? (i := 47) rfl)), rfl, hnm⟩) (hw _ (List.mem_of_getElem? (i := 35) rfl)) (ty := (.object "java/lang/String")) (by decide) (rfl) (rfl) (g := (mkF m 6 #[.val (.ref a), .val (.ref u1), .val .null] [(.ref u1), (.ref a)])) rfl rfl (hb hby d8_6)
  have Fw59 := Fld.same W59 F1
  have N59 := Fr.snoc X59 N58 ge_a
  refine own_st (fr' := (mkF m 9 #[.val (.ref a), .val (.ref u1), .val .null] [])) st59 ?_
  refine own_st (fr' := (mkF m 10 #[.val (.ref a), .val (.ref u1), .val .null] [(.ref a)])) (fun t k => XS.aloadN X59.here hx rfl (hb hby d8_9) rfl rfl k) ?_
  refine own_st (fr' := (mkF m 11 #[.val (.ref a), .val (.ref u1), .val .null] [.null, (.ref a)])) (fun t k => XS.aloadN X59.here hx rfl (hb hby d8_10) rfl rfl k) ?_
  obtain ⟨T60, h60, X60, e60, W60, st60⟩ := putF X59 hx hZ hown (host := "") (Or.inl (hw _ (List.mem_of_getElem? (i := 48) rfl))) Via.refl e59 (Fld.other W59 F2 (Or.inr (Jvm.RoadKit.slot_ne (C := "com/example/precedence/precedence/xslt/WhitespaceStripping$NameTest") (Or.inr (hw _ (List.mem_of_getElem? (i := 49) rfl))) (Or.inr (hw _ (List.mem_of_getElem? (i := 47) rfl))) (by decide) (t := (.object "java/lang/String")) (t' := (.object "java/lang/String")) (by decide) (by decide)))) (Exa.wr W59 E0) (Or.inr ⟨(hw _ (List.mem_of_getElem? (i := 49) rfl)), rfl, hnm⟩) (hw _ (List.mem_of_getElem? (i := 35) rfl)) (ty := (.object "java/lang/String")) (by decide) (rfl) (rfl) (g := (mkF m 11 #[.val (.ref a), .val (.ref u1), .val .null] [.null, (.ref a)])) rfl rfl (hb hby d8_11)
  have Fw60 := Fld.same W60 (Fld.other W59 F2 (Or.inr (Jvm.RoadKit.slot_ne (C := "com/example/precedence/precedence/xslt/WhitespaceStripping$NameTest") (Or.inr (hw _ (List.mem_of_getElem? (i := 49) rfl))) (Or.inr (hw _ (List.mem_of_getElem? (i := 47) rfl))) (by decide) (t := (.object "java/lang/String")) (t' := (.object "java/lang/String")) (by decide) (by decide))))
  have N60 := Fr.snoc X60 N59 ge_a
  refine own_st (fr' := (mkF m 14 #[.val (.ref a), .val (.ref u1), .val .null] [])) st60 ?_
  exact own_retV X60 hx hlk hret (hb hby d8_14) (by decide) (by decide) (by rw [e60]; exact ⟨rfl, N60, (Keep.wr (Keep.wr (Keep.refl h0 [a]) W59 (Or.inl (List.mem_of_getElem? (i := 0) rfl))) W60 (Or.inl (List.mem_of_getElem? (i := 0) rfl))), (Fld.other W60 Fw59 (Or.inr (Jvm.RoadKit.slot_ne (C := "com/example/precedence/precedence/xslt/WhitespaceStripping$NameTest") (Or.inr (hw _ (List.mem_of_getElem? (i := 47) rfl))) (Or.inr (hw _ (List.mem_of_getElem? (i := 49) rfl))) (by decide) (t := (.object "java/lang/String")) (t' := (.object "java/lang/String")) (by decide) (by decide)))), Fw60⟩)
theorem d10_7 : decode prog_286_method_3_code 7 = .ok (.aload_n 0, 1) := by decide +kernel
theorem d10_8 : decode prog_286_method_3_code 8 = .ok (.getfield 13, 3) := by decide +kernel
theorem d10_11 : decode prog_286_method_3_code 11 = .ok (.ifnull 8, 3) := by decide +kernel
theorem ef_pr10 (m : MethodId) (a : Addr) : entryFrame m #[(.ref a)] 3 = mkF m 0 #[.val (.ref a), .unset, .unset] [] := by first | (simp [entryFrame, mkF, argsToLocals, Value.category, maxLocals]; done) | rfl
def Q_pr10 (Z : State) (a : Addr) (u1 : Addr) (h0 : Heap) (n0 : Nat) : Option Value → Heap → List Loc → Prop := fun v h L => v = some (.double (13821547256400052224 : UInt64)) ∧ Fr n0 L ∧ h = h0
set_option maxRecDepth 65536 in
set_option maxHeartbeats 40000000 in
theorem rm_pr10 (l : Launch) (Z : State) (a0 : Array Value) (hw : ∀ d ∈ tables_1, d.before a0 Z = true) (ws : List Jvm.Cond) (a : Addr) (u1 : Addr) (h0 : Heap) (n0 : Nat) (Z0 : n0 ≤ h0.size) (F1 : Fld Z h0 a "com/example/precedence/precedence/xslt/WhitespaceStripping$NameTest" "namespaceUri" "Ljava/lang/String;" (.ref u1)) (F2 : Fld Z h0 a "com/example/precedence/precedence/xslt/WhitespaceStripping$NameTest" "localName" "Ljava/lang/String;" .null) :
    MetFree l (⟨"com/example/precedence/precedence/xslt/WhitespaceStripping$NameTest", "priority", "()D"⟩ : MethodName) (head1 (Jvm.Cond.code (⟨"com/example/precedence/precedence/xslt/WhitespaceStripping$NameTest", "priority", "()D"⟩ : MethodName) prog_286_method_3_code 3 (some .double) :: ws) ({ frames := 0, cells := 0, slots := 0, locals := 0 } : Room)) (fun aX U => aX = #[(.ref a)] ∧ Z.Warmed39 U.vm ∧ U.heap = h0) (fun _ _ _ _ _ => True) (fun _ U o U' => ∃ v L, o = .returned v ∧ (Q_pr10 Z a u1 h0 n0) v U'.heap L ∧ FrameEnd U o U' L ({ frames := 0, cells := 0, slots := 0, locals := 0 } : Room).cells ({ frames := 0, cells := 0, slots := 0, locals := 0 } : Room).slots) := by
  refine own_met (Q := (Q_pr10 Z a u1 h0 n0)) (plainFor_of_name (x := (⟨"com/example/precedence/precedence/xslt/WhitespaceStripping$NameTest", "priority", "()D"⟩ : MethodName)) pn_4) (fun m => ef_pr10 m a) ?_
  intro p e s m below meth cD s₁ hx hby hml hret hlk hZ hown hnm X0 e0 hs0
  have hown : s.vm.findClass "com/example/precedence/precedence/xslt/WhitespaceStripping$NameTest" = some m.cls := hown
  have N0 := Fr.nil n0
  refine own_st (fr' := (mkF m 1 #[.val (.ref a), .unset, .unset] [(.ref a)])) (fun t k => XS.aloadN X0.here hx rfl (hb hby d10_0) rfl rfl k) ?_
  obtain ⟨T61, X61, e61, st61⟩ := getF X0 hx hZ hown (host := "") (Or.inl (hw _ (List.mem_of_getElem? (i := 46) rfl))) Via.refl e0 F1 (g := (mkF m 1 #[.val (.ref a), .unset, .unset] [(.ref a)])) rfl rfl (hb hby d10_1)
  refine own_st (fr' := (mkF m 4 #[.val (.ref a), .unset, .unset] [(.ref u1)])) st61 ?_
  refine own_st (fr' := (mkF m 7 #[.val (.ref a), .unset, .unset] [])) (fun t k => XS.ifnullNo X61.here hx rfl (hb hby d10_4) rfl k) ?_
  refine own_st (fr' := (mkF m 8 #[.val (.ref a), .unset, .unset] [(.ref a)])) (fun t k => XS.aloadN X61.here hx rfl (hb hby d10_7) rfl rfl k) ?_
  obtain ⟨T62, X62, e62, st62⟩ := getF X61 hx hZ hown (host := "") (Or.inl (hw _ (List.mem_of_getElem? (i := 48) rfl))) Via.refl e61 F2 (g := (mkF m 8 #[.val (.ref a), .unset, .unset] [(.ref a)])) rfl rfl (hb hby d10_8)
  refine own_st (fr' := (mkF m 11 #[.val (.ref a), .unset, .unset] [.null])) st62 ?_
  refine own_st (fr' := (mkF m 19 #[.val (.ref a), .unset, .unset] [])) (fun t k => XS.ifnullYes X62.here hx rfl (pc0 := 11) (pc' := 19) rfl (hb hby d10_11) rfl (by decide) (by decide) k) ?_
  refine own_st (fr' := (mkF m 20 #[.val (.ref a), .unset, .unset] [(.ref a)])) (fun t k => XS.aloadN X62.here hx rfl (hb hby d10_19) rfl rfl k) ?_
  obtain ⟨T63, X63, e63, st63⟩ := getF X62 hx hZ hown (host := "") (Or.inl (hw _ (List.mem_of_getElem? (i := 46) rfl))) Via.refl e62 F1 (g := (mkF m 20 #[.val (.ref a), .unset, .unset] [(.ref a)])) rfl rfl (hb hby d10_20)
  refine own_st (fr' := (mkF m 23 #[.val (.ref a), .unset, .unset] [(.ref u1)])) st63 ?_
  refine own_st (fr' := (mkF m 33 #[.val (.ref a), .unset, .unset] [])) (fun t k => XS.ifnonnullYes X63.here hx rfl (pc0 := 23) (pc' := 33) rfl (hb hby d10_23) rfl (by decide) (by decide) k) ?_
  refine own_st (fr' := (mkF m 36 #[.val (.ref a), .unset, .unset] [(.double (13821547256400052224 : UInt64))])) (fun t k => X63.ldc2DoubleC hx hown (mvT hZ (hw _ (List.mem_of_getElem? (i := 55) rfl))) (g := (mkF m 33 #[.val (.ref a), .unset, .unset] [])) rfl (hb hby d10_33) t k) ?_
  refine own_st (fr' := (mkF m 37 #[.val (.ref a), .val (.double (13821547256400052224 : UInt64)), .second] [])) (fun t k => XS.dstoreN X63.here hx rfl (hb hby d10_36) rfl  (l' := #[.val (.ref a), .val (.double (13821547256400052224 : UInt64)), .second]) rfl k) ?_
  refine own_st (fr' := (mkF m 44 #[.val (.ref a), .val (.double (13821547256400052224 : UInt64)), .second] [])) (fun t k => XS.goto X63.here hx rfl (pc0 := 37) (pc' := 44) rfl (hb hby d10_37) (by decide) (by decide) k) ?_
  refine own_st (fr' := (mkF m 45 #[.val (.ref a), .val (.double (13821547256400052224 : UInt64)), .second] [(.double (13821547256400052224 : UInt64))])) (fun t k => XS.dloadN X63.here hx rfl (hb hby d10_44) rfl  k) ?_
  exact own_ret X63 hx hlk hret rfl (Or.inr (Or.inr (Or.inl ⟨rfl, rfl, _, rfl⟩))) (hb hby d10_45) (by decide) (by decide) (⟨rfl, N0, e63⟩)
theorem ef_ni11 (m : MethodId) (a : Addr) (u1 : Addr) (u2 : Addr) : entryFrame m #[(.ref a), (.ref u1), (.ref u2)] 3 = mkF m 0 #[.val (.ref a), .val (.ref u1), .val (.ref u2)] [] := by first | (simp [entryFrame, mkF, argsToLocals, Value.category, maxLocals]; done) | rfl
def Q_ni11 (Z : State) (a : Addr) (u1 : Addr) (u2 : Addr) (h0 : Heap) (n0 : Nat) : Option Value → Heap → List Loc → Prop := fun v h L => v = none ∧ Fr n0 L ∧ Keep h0 h [a] ∧ Fld Z h a "com/example/precedence/precedence/xslt/WhitespaceStripping$NameTest" "namespaceUri" "Ljava/lang/String;" (.ref u1) ∧ Fld Z h a "com/example/precedence/precedence/xslt/WhitespaceStripping$NameTest" "localName" "Ljava/lang/String;" (.ref u2)
set_option maxRecDepth 65536 in
set_option maxHeartbeats 40000000 in
theorem rm_ni11 (l : Launch) (Z : State) (a0 : Array Value) (hw : ∀ d ∈ tables_1, d.before a0 Z = true) (ws : List Jvm.Cond) (a : Addr) (u1 : Addr) (u2 : Addr) (h0 : Heap) (n0 : Nat) (Z0 : n0 ≤ h0.size) (F1 : Fld Z h0 a "com/example/precedence/precedence/xslt/WhitespaceStripping$NameTest" "namespaceUri" "Ljava/lang/String;" .null) (F2 : Fld Z h0 a "com/example/precedence/precedence/xslt/WhitespaceStripping$NameTest" "localName" "Ljava/lang/String;" .null) (E0 : Exa Z h0 a "com/example/precedence/precedence/xslt/WhitespaceStripping$NameTest") (ge_a : n0 ≤ a) :
    MetFree l (⟨"com/example/precedence/precedence/xslt/WhitespaceStripping$NameTest", "<init>", "(Ljava/lang/String;Ljava/lang/String;)V"⟩ : MethodName) (head1 (Jvm.Cond.code (⟨"com/example/precedence/precedence/xslt/WhitespaceStripping$NameTest", "<init>", "(Ljava/lang/String;Ljava/lang/String;)V"⟩ : MethodName) prog_286_method_1_code 3 none :: ws) ({ frames := 2, cells := 0, slots := 0, locals := 24 } : Room)) (fun aX U => aX = #[(.ref a), (.ref u1), (.ref u2)] ∧ Z.Warmed39 U.vm ∧ U.heap = h0) (fun _ _ _ _ _ => True) (fun _ U o U' => ∃ v L, o = .returned v ∧ (Q_ni11 Z a u1 u2 h0 n0) v U'.heap L ∧ FrameEnd U o U' L ({ frames := 2, cells := 0, slots := 0, locals := 24 } : Room).cells ({ frames := 2, cells := 0, slots := 0, locals := 24 } : Room).slots) := by
  refine own_met (Q := (Q_ni11 Z a u1 u2 h0 n0)) (plainFor_of_name (x := (⟨"com/example/precedence/precedence/xslt/WhitespaceStripping$NameTest", "<init>", "(Ljava/lang/String;Ljava/lang/String;)V"⟩ : MethodName)) pn_4) (fun m => ef_ni11 m a u1 u2) ?_
  intro p e s m below meth cD s₁ hx hby hml hret hlk hZ hown hnm X0 e0 hs0
  have hown : s.vm.findClass "com/example/precedence/precedence/xslt/WhitespaceStripping$NameTest" = some m.cls := hown
  have N0 := Fr.nil n0
  refine own_st (fr' := (mkF m 1 #[.val (.ref a), .val (.ref u1), .val (.ref u2)] [(.ref a)])) (fun t k => XS.aloadN X0.here hx rfl (hb hby d8_0) rfl rfl k) ?_
  refine own_callN X0 hx hZ (y := (⟨"java/lang/Record", "<init>", "()V"⟩ : MethodName)) hown rfl (hw _ (List.mem_of_getElem? (i := 40) rfl)) (hw _ (List.mem_of_getElem? (i := 41) rfl)) (hw _ (List.mem_of_getElem? (i := 43) rfl)) (hw _ (List.mem_of_getElem? (i := 44) rfl)) (by decide) (a := a) (argsL := []) (rest := []) (W := 0) (rm_rec l Z a0 hw [] a h0 n0 Z0 ) e0 (by rw [hml]; rfl) (lenOf pd_5 rfl) rfl (Nat.le_of_eq rfl) (hb hby d8_1) (by decide) (by decide) (by decide) (by decide) ?_
  intro v64 T64 L64 X64 hQ64
  obtain ⟨rfl, Nq64, eq64⟩ := hQ64
  have N64 := Fr.app N0 Nq64
  refine own_st (fr' := (mkF m 5 #[.val (.ref a), .val (.ref u1), .val (.ref u2)] [(.ref a)])) (fun t k => XS.aloadN X64.here hx rfl (hb hby d8_4) rfl rfl k) ?_
  refine own_st (fr' := (mkF m 6 #[.val (.ref a), .val (.ref u1), .val (.ref u2)] [(.ref u1), (.ref a)])) (fun t k => XS.aloadN X64.here hx rfl (hb hby d8_5) rfl rfl k) ?_
  obtain ⟨T65, h65, X65, e65, W65, st65⟩ := putF X64 hx hZ hown (host := "") (Or.inl (hw _ (List.mem_of_getElem? (i := 46) rfl))) Via.refl eq64 F1 E0 (Or.inr ⟨(hw _ (List.mem_of_getElem? (i := 47) rfl)), rfl, hnm⟩) (hw _ (List.mem_of_getElem? (i := 35) rfl)) (ty := (.object "java/lang/String")) (by decide) (rfl) (rfl) (g := (mkF m 6 #[.val (.ref a), .val (.ref u1), .val (.ref u2)] [(.ref u1), (.ref a)])) rfl rfl (hb hby d8_6)
  have Fw65 := Fld.same W65 F1
  have N65 := Fr.snoc X65 N64 ge_a
  refine own_st (fr' := (mkF m 9 #[.val (.ref a), .val (.ref u1), .val (.ref u2)] [])) st65 ?_
  refine own_st (fr' := (mkF m 10 #[.val (.ref a), .val (.ref u1), .val (.ref u2)] [(.ref a)])) (fun t k => XS.aloadN X65.here hx rfl (hb hby d8_9) rfl rfl k) ?_
  refine own_st (fr' := (mkF m 11 #[.val (.ref a), .val (.ref u1), .val (.ref u2)] [(.ref u2), (.ref a)])) (fun t k => XS.aloadN X65.here hx rfl (hb hby d8_10) rfl rfl k) ?_
  obtain ⟨T66, h66, X66, e66, W66, st66⟩ := putF X65 hx hZ hown (host := "") (Or.inl (hw _ (List.mem_of_getElem? (i := 48) rfl))) Via.refl e65 (Fld.other W65 F2 (Or.inr (Jvm.RoadKit.slot_ne (C := "com/example/precedence/precedence/xslt/WhitespaceStripping$NameTest") (Or.inr (hw _ (List.mem_of_getElem? (i := 49) rfl))) (Or.inr (hw _ (List.mem_of_getElem? (i := 47) rfl))) (by decide) (t := (.object "java/lang/String")) (t' := (.object "java/lang/String")) (by decide) (by decide)))) (Exa.wr W65 E0) (Or.inr ⟨(hw _ (List.mem_of_getElem? (i := 49) rfl)), rfl, hnm⟩) (hw _ (List.mem_of_getElem? (i := 35) rfl)) (ty := (.object "java/lang/String")) (by decide) (rfl) (rfl) (g := (mkF m 11 #[.val (.ref a), .val (.ref u1), .val (.ref u2)] [(.ref u2), (.ref a)])) rfl rfl (hb hby d8_11)
  have Fw66 := Fld.same W66 (Fld.other W65 F2 (Or.inr (Jvm.RoadKit.slot_ne (C := "com/example/precedence/precedence/xslt/WhitespaceStripping$NameTest") (Or.inr (hw _ (List.mem_of_getElem? (i := 49) rfl))) (Or.inr (hw _ (List.mem_of_getElem? (i := 47) rfl))) (by decide) (t := (.object "java/lang/String")) (t' := (.object "java/lang/String")) (by decide) (by decide))))
  have N66 := Fr.snoc X66 N65 ge_a
  refine own_st (fr' := (mkF m 14 #[.val (.ref a), .val (.ref u1), .val (.ref u2)] [])) st66 ?_
  exact own_retV X66 hx hlk hret (hb hby d8_14) (by decide) (by decide) (by rw [e66]; exact ⟨rfl, N66, (Keep.wr (Keep.wr (Keep.refl h0 [a]) W65 (Or.inl (List.mem_of_getElem? (i := 0) rfl))) W66 (Or.inl (List.mem_of_getElem? (i := 0) rfl))), (Fld.other W66 Fw65 (Or.inr (Jvm.RoadKit.slot_ne (C := "com/example/precedence/precedence/xslt/WhitespaceStripping$NameTest") (Or.inr (hw _ (List.mem_of_getElem? (i := 47) rfl))) (Or.inr (hw _ (List.mem_of_getElem? (i := 49) rfl))) (by decide) (t := (.object "java/lang/String")) (t' := (.object "java/lang/String")) (by decide) (by decide)))), Fw66⟩)
theorem d10_14 : decode prog_286_method_3_code 14 = .ok (.dconst 0, 1) := by decide +kernel
theorem d10_15 : decode prog_286_method_3_code 15 = .ok (.dstore_n 1, 1) := by decide +kernel
theorem d10_16 : decode prog_286_method_3_code 16 = .ok (.goto 28, 3) := by decide +kernel
theorem ef_pr11 (m : MethodId) (a : Addr) : entryFrame m #[(.ref a)] 3 = mkF m 0 #[.val (.ref a), .unset, .unset] [] := by first | (simp [entryFrame, mkF, argsToLocals, Value.category, maxLocals]; done) | rfl
def Q_pr11 (Z : State) (a : Addr) (u1 : Addr) (u2 : Addr) (h0 : Heap) (n0 : Nat) : Option Value → Heap → List Loc → Prop := fun v h L => v = some (.double (0 : UInt64)) ∧ Fr n0 L ∧ h = h0
set_option maxRecDepth 65536 in
set_option maxHeartbeats 40000000 in
theorem rm_pr11 (l : Launch) (Z : State) (a0 : Array Value) (hw : ∀ d ∈ tables_1, d.before a0 Z = true) (ws : List Jvm.Cond) (a : Addr) (u1 : Addr) (u2 : Addr) (h0 : Heap) (n0 : Nat) (Z0 : n0 ≤ h0.size) (F1 : Fld Z h0 a "com/example/precedence/precedence/xslt/WhitespaceStripping$NameTest" "namespaceUri" "Ljava/lang/String;" (.ref u1)) (F2 : Fld Z h0 a "com/example/precedence/precedence/xslt/WhitespaceStripping$NameTest" "localName" "Ljava/lang/String;" (.ref u2)) :
    MetFree l (⟨"com/example/precedence/precedence/xslt/WhitespaceStripping$NameTest", "priority", "()D"⟩ : MethodName) (head1 (Jvm.Cond.code (⟨"com/example/precedence/precedence/xslt/WhitespaceStripping$NameTest", "priority", "()D"⟩ : MethodName) prog_286_method_3_code 3 (some .double) :: ws) ({ frames := 0, cells := 0, slots := 0, locals := 0 } : Room)) (fun aX U => aX = #[(.ref a)] ∧ Z.Warmed39 U.vm ∧ U.heap = h0) (fun _ _ _ _ _ => True) (fun _ U o U' => ∃ v L, o = .returned v ∧ (Q_pr11 Z a u1 u2 h0 n0) v U'.heap L ∧ FrameEnd U o U' L ({ frames := 0, cells := 0, slots := 0, locals := 0 } : Room).cells ({ frames := 0, cells := 0, slots := 0, locals := 0 } : Room).slots) := by
  refine own_met (Q := (Q_pr11 Z a u1 u2 h0 n0)) (plainFor_of_name (x := (⟨"com/example/precedence/precedence/xslt/WhitespaceStripping$NameTest", "priority", "()D"⟩ : MethodName)) pn_4) (fun m => ef_pr11 m a) ?_
  intro p e s m below meth cD s₁ hx hby hml hret hlk hZ hown hnm X0 e0 hs0
  have hown : s.vm.findClass "com/example/precedence/precedence/xslt/WhitespaceStripping$NameTest" = some m.cls := hown
  have N0 := Fr.nil n0
  refine own_st (fr' := (mkF m 1 #[.val (.ref a), .unset, .unset] [(.ref a)])) (fun t k => XS.aloadN X0.here hx rfl (hb hby d10_0) rfl rfl k) ?_
  obtain ⟨T67, X67, e67, st67⟩ := getF X0 hx hZ hown (host := "") (Or.inl (hw _ (List.mem_of_getElem? (i := 46) rfl))) Via.refl e0 F1 (g := (mkF m 1 #[.val (.ref a), .unset, .unset] [(.ref a)])) rfl rfl (hb hby d10_1)
  refine own_st (fr' := (mkF m 4 #[.val (.ref a), .unset, .unset] [(.ref u1)])) st67 ?_
  refine own_st (fr' := (mkF m 7 #[.val (.ref a), .unset, .unset] [])) (fun t k => XS.ifnullNo X67.here hx rfl (hb hby d10_4) rfl k) ?_
  refine own_st (fr' := (mkF m 8 #[.val (.ref a), .unset, .unset] [(.ref a)])) (fun t k => XS.aloadN X67.here hx rfl (hb hby d10_7) rfl rfl k) ?_
  obtain ⟨T68, X68, e68, st68⟩ := getF X67 hx hZ hown (host := "") (Or.inl (hw _ (List.mem_of_getElem? (i := 48) rfl))) Via.refl e67 F2 (g := (mkF m 8 #[.val (.ref a), .unset, .unset] [(.ref a)])) rfl rfl (hb hby d10_8)
  refine own_st (fr' := (mkF m 11 #[.val (.ref a), .unset, .unset] [(.ref u2)])) st68 ?_
  refine own_st (fr' := (mkF m 14 #[.val (.ref a), .unset, .unset] [])) (fun t k => XS.ifnullNo X68.here hx rfl (hb hby d10_11) rfl k) ?_
  refine own_st (fr' := (mkF m 15 #[.val (.ref a), .unset, .unset] [(.double (0 : UInt64))])) (fun t k => XS.dconst0 X68.here hx rfl (hb hby d10_14) rfl k) ?_
  refine own_st (fr' := (mkF m 16 #[.val (.ref a), .val (.double (0 : UInt64)), .second] [])) (fun t k => XS.dstoreN X68.here hx rfl (hb hby d10_15) rfl  (l' := #[.val (.ref a), .val (.double (0 : UInt64)), .second]) rfl k) ?_
  refine own_st (fr' := (mkF m 44 #[.val (.ref a), .val (.double (0 : UInt64)), .second] [])) (fun t k => XS.goto X68.here hx rfl (pc0 := 16) (pc' := 44) rfl (hb hby d10_16) (by decide) (by decide) k) ?_
  refine own_st (fr' := (mkF m 45 #[.val (.ref a), .val (.double (0 : UInt64)), .second] [(.double (0 : UInt64))])) (fun t k => XS.dloadN X68.here hx rfl (hb hby d10_44) rfl  k) ?_
  exact own_ret X68 hx hlk hret rfl (Or.inr (Or.inr (Or.inl ⟨rfl, rfl, _, rfl⟩))) (hb hby d10_45) (by decide) (by decide) (⟨rfl, N0, e68⟩)
theorem pd_6 : parseMethodDescriptor "(II)Ljava/lang/String;" = some ⟨[.int, .int], some (.object "java/lang/String")⟩ := by decide +kernel
theorem pd_7 : parseMethodDescriptor "(Ljava/lang/String;Ljava/lang/String;)V" = some ⟨[(.object "java/lang/String"), (.object "java/lang/String")], none⟩ := by decide +kernel
theorem pd_8 : parseMethodDescriptor "()D" = some ⟨[], some .double⟩ := by decide +kernel
theorem ef_law (m : MethodId) (s1 : Int32) (c1 : Int32) (s2 : Int32) (c2 : Int32) : entryFrame m #[(.int s1), (.int c1), (.int s2), (.int c2)] maxLocals = mkF m 0 #[.val (.int s1), .val (.int c1), .val (.int s2), .val (.int c2), .unset, .unset, .unset, .unset, .unset, .unset, .unset] [] := by first | (simp [entryFrame, mkF, argsToLocals, Value.category, maxLocals]; done) | rfl
def Q_law (Z : State) (s1 : Int32) (c1 : Int32) (s2 : Int32) (c2 : Int32) (cz : Int32) (h0 : Heap) (n0 : Nat) : Option Value → Heap → List Loc → Prop := fun v h L => v = some (.int 1) ∧ Fr n0 L
set_option maxRecDepth 65536 in
set_option maxHeartbeats 40000000 in
theorem rm_law (l : Launch) (Z : State) (a0 : Array Value) (hw : ∀ d ∈ tables_1, d.before a0 Z = true) (ws : List Jvm.Cond) (s1 : Int32) (c1 : Int32) (s2 : Int32) (c2 : Int32) (cz : Int32) (h0 : Heap) (n0 : Nat) (Z0 : n0 ≤ h0.size) (S_cs : Sta Z h0 "java/lang/String" "COMPACT_STRINGS" "Z" (.int cz)) (hcz : ¬ cz.toInt = 0) :
    MetFree l x (head1 (Jvm.Cond.code x code maxLocals ret :: ws) room_1) (fun aX U => aX = #[(.int s1), (.int c1), (.int s2), (.int c2)] ∧ Z.Warmed39 U.vm ∧ U.heap = h0 ∧ CHv Z own_EL U.vm h0) (fun _ _ _ _ _ => True) (fun _ U o U' => ∃ v L, o = .returned v ∧ (Q_law Z s1 c1 s2 c2 cz h0 n0) v U'.heap L ∧ CHr Z own_EL U.vm U.heap U'.vm U'.heap ∧ ReturnedEndW U o U' L room_1.cells room_1.slots) := by
  refine own_metC (Q := (Q_law Z s1 c1 s2 c2 cz h0 n0)) (plainFor_of_name (x := x) pn_2) (fun m => ef_law m s1 c1 s2 c2) ?_
  intro p e s m below meth cD s₁ hx hby hml hret hlk hZ hown hnm X0 e0 hS r0
  have hml : cD.maxLocals = 11 := hml
  have hown : s.vm.findClass "com/example/precedence/precedence/xslt/NameTestPriorityPinLaw" = some m.cls := hown
  have N0 := Fr.nil n0
  refine own_st (fr' := (mkF m 1 #[.val (.int s1), .val (.int c1), .val (.int s2), .val (.int c2), .unset, .unset, .unset, .unset, .unset, .unset, .unset] [(.int s1)])) (fun t k => XS.iloadN X0.here hx rfl (hb hby at_0) rfl  k) ?_
  refine own_st (fr' := (mkF m 2 #[.val (.int s1), .val (.int c1), .val (.int s2), .val (.int c2), .unset, .unset, .unset, .unset, .unset, .unset, .unset] [(.int c1), (.int s1)])) (fun t k => XS.iloadN X0.here hx rfl (hb hby at_1) rfl  k) ?_
  refine own_callSC X0 hx hZ hS (Nat.le_refl _) (own_ew hw) r0 (y := (⟨"com/example/precedence/precedence/xslt/NameTestPriorityPinLaw", "draw", "(II)Ljava/lang/String;"⟩ : MethodName)) hown (hw _ (List.mem_of_getElem? (i := 0) rfl)) (hw _ (List.mem_of_getElem? (i := 1) rfl)) (hw _ (List.mem_of_getElem? (i := 2) rfl)) (hw _ (List.mem_of_getElem? (i := 3) rfl)) (by decide) (argsL := [(.int s1), (.int c1)]) (rest := []) (W := 0) (rm_draw l Z a0 hw [] s1 c1 cz h0 n0 Z0 S_cs hcz) e0  (by rw [hml]; rfl) (lenOf pd_6 rfl) rfl (Nat.le_of_eq rfl) (hb hby at_2) (by decide) (by decide) (by decide) (by decide) ?_
  intro v69 T69 L69 vm69 X69 hQ69 hZ hown hS rc69 r69
  obtain ⟨hv69, Nq69, K69⟩ := hQ69
  have N69 := Fr.app N0 Nq69
  rcases hv69 with rfl | ⟨u69, rfl⟩
  · refine own_st (fr' := (mkF m 7 #[.val (.int s1), .val (.int c1), .val (.int s2), .val (.int c2), .val .null, .unset, .unset, .unset, .unset, .unset, .unset] [])) (fun t k => XS.astore X69.here hx rfl (hb hby at_5) rfl rfl (l' := #[.val (.int s1), .val (.int c1), .val (.int s2), .val (.int c2), .val .null, .unset, .unset, .unset, .unset, .unset, .unset]) rfl k) ?_
    refine own_st (fr' := (mkF m 8 #[.val (.int s1), .val (.int c1), .val (.int s2), .val (.int c2), .val .null, .unset, .unset, .unset, .unset, .unset, .unset] [(.int s2)])) (fun t k => XS.iloadN X69.here hx rfl (hb hby at_7) rfl  k) ?_
    refine own_st (fr' := (mkF m 9 #[.val (.int s1), .val (.int c1), .val (.int s2), .val (.int c2), .val .null, .unset, .unset, .unset, .unset, .unset, .unset] [(.int c2), (.int s2)])) (fun t k => XS.iloadN X69.here hx rfl (hb hby at_8) rfl  k) ?_
    refine own_callSC X69 hx hZ hS (Nat.le_refl _) (own_ew hw) r69 (y := (⟨"com/example/precedence/precedence/xslt/NameTestPriorityPinLaw", "draw", "(II)Ljava/lang/String;"⟩ : MethodName)) hown (hw _ (List.mem_of_getElem? (i := 0) rfl)) (hw _ (List.mem_of_getElem? (i := 1) rfl)) (hw _ (List.mem_of_getElem? (i := 2) rfl)) (hw _ (List.mem_of_getElem? (i := 3) rfl)) (by decide) (argsL := [(.int s2), (.int c2)]) (rest := []) (W := 0) (rm_draw l Z a0 hw [] s2 c2 cz T69.heap n0 (Nat.le_trans Z0 K69.1) (own_sk0 S_cs K69) hcz) rfl  (by rw [hml]; rfl) (lenOf pd_6 rfl) rfl (Nat.le_of_eq rfl) (hb hby at_9) (by decide) (by decide) (by decide) (by decide) ?_
    intro v70 T70 L70 vm70 X70 hQ70 hZ hown hS rc70 r70
    obtain ⟨hv70, Nq70, K70⟩ := hQ70
    have N70 := Fr.app N69 Nq70
    rcases hv70 with rfl | ⟨u70, rfl⟩
    · refine own_st (fr' := (mkF m 14 #[.val (.int s1), .val (.int c1), .val (.int s2), .val (.int c2), .val .null, .val .null, .unset, .unset, .unset, .unset, .unset] [])) (fun t k => XS.astore X70.here hx rfl (hb hby at_12) rfl rfl (l' := #[.val (.int s1), .val (.int c1), .val (.int s2), .val (.int c2), .val .null, .val .null, .unset, .unset, .unset, .unset, .unset]) rfl k) ?_
      obtain ⟨T71, h71, X71, e71, E71, A71, D71, -, st71⟩ := newO X70 hx hZ hown (hw _ (List.mem_of_getElem? (i := 34) rfl)) (hw _ (List.mem_of_getElem? (i := 35) rfl)) (hw _ (List.mem_of_getElem? (i := 36) rfl)) rfl (g := (mkF m 14 #[.val (.int s1), .val (.int c1), .val (.int s2), .val (.int c2), .val .null, .val .null, .unset, .unset, .unset, .unset, .unset] [])) rfl (hb hby at_14) (by decide) (by decide)
      obtain ⟨b71, g71⟩ : ∃ z, z = T70.heap.size := ⟨_, rfl⟩
      rw [← g71] at A71 D71 st71
      have ge_b71 : n0 ≤ b71 := Nat.le_trans (Nat.le_trans (Nat.le_trans Z0 K69.1) K70.1) (Nat.le_of_eq g71.symm)
      have sz_b71 : h0.size ≤ b71 := Nat.le_trans (Nat.le_trans (Nat.le_trans (Nat.le_refl _) K69.1) K70.1) (Nat.le_of_eq g71.symm)
      have r72 := CHr.trans r70 (CHr.ext E71 r70.1)
      have F71_namespaceUri : Fld Z h71 b71 "com/example/precedence/precedence/xslt/WhitespaceStripping$NameTest" "namespaceUri" "Ljava/lang/String;" .null := D71 (Or.inr (hw _ (List.mem_of_getElem? (i := 47) rfl))) (ty := (.object "java/lang/String")) (by decide)
      have F71_localName : Fld Z h71 b71 "com/example/precedence/precedence/xslt/WhitespaceStripping$NameTest" "localName" "Ljava/lang/String;" .null := D71 (Or.inr (hw _ (List.mem_of_getElem? (i := 49) rfl))) (ty := (.object "java/lang/String")) (by decide)
      refine own_st (fr' := (mkF m 17 #[.val (.int s1), .val (.int c1), .val (.int s2), .val (.int c2), .val .null, .val .null, .unset, .unset, .unset, .unset, .unset] [(.ref b71)])) st71 ?_
      refine own_st (fr' := (mkF m 18 #[.val (.int s1), .val (.int c1), .val (.int s2), .val (.int c2), .val .null, .val .null, .unset, .unset, .unset, .unset, .unset] [(.ref b71), (.ref b71)])) (fun t k => XS.dup X71.here hx rfl (hb hby at_17) rfl rfl k) ?_
      refine own_st (fr' := (mkF m 20 #[.val (.int s1), .val (.int c1), .val (.int s2), .val (.int c2), .val .null, .val .null, .unset, .unset, .unset, .unset, .unset] [.null, (.ref b71), (.ref b71)])) (fun t k => XS.aload X71.here hx rfl (hb hby at_18) rfl rfl k) ?_
      refine own_st (fr' := (mkF m 22 #[.val (.int s1), .val (.int c1), .val (.int s2), .val (.int c2), .val .null, .val .null, .unset, .unset, .unset, .unset, .unset] [.null, .null, (.ref b71), (.ref b71)])) (fun t k => XS.aload X71.here hx rfl (hb hby at_20) rfl rfl k) ?_
      refine own_callN X71 hx hZ (y := (⟨"com/example/precedence/precedence/xslt/WhitespaceStripping$NameTest", "<init>", "(Ljava/lang/String;Ljava/lang/String;)V"⟩ : MethodName)) hown rfl (hw _ (List.mem_of_getElem? (i := 37) rfl)) (hw _ (List.mem_of_getElem? (i := 38) rfl)) (hw _ (List.mem_of_getElem? (i := 36) rfl)) (hw _ (List.mem_of_getElem? (i := 39) rfl)) (by decide) (a := b71) (argsL := [.null, .null]) (rest := [(.ref b71)]) (W := 1) (rm_ni00 l Z a0 hw [] b71  h71 n0 (Nat.le_trans (Nat.le_trans (Nat.le_trans Z0 K69.1) K70.1) E71.1) F71_namespaceUri F71_localName A71 ge_b71) e71 (by rw [hml]; rfl) (lenOf pd_7 rfl) rfl (Nat.le_of_eq rfl) (hb hby at_22) (by decide) (by decide) (by decide) (by decide) ?_
      intro v73 T73 L73 X73 hQ73
      obtain ⟨rfl, Nq73, K73, Fc73_0, Fc73_1⟩ := hQ73
      have N73 := Fr.app N70 Nq73
      have r74 := CHr.trans r72 (CHr.keep K73 (allS (Safe.exa hZ.alike A71 (by decide) (by decide)) all0) r72.1)
      refine own_st (fr' := (mkF m 27 #[.val (.int s1), .val (.int c1), .val (.int s2), .val (.int c2), .val .null, .val .null, .val (.ref b71), .unset, .unset, .unset, .unset] [])) (fun t k => XS.astore X73.here hx rfl (hb hby at_25) rfl rfl (l' := #[.val (.int s1), .val (.int c1), .val (.int s2), .val (.int c2), .val .null, .val .null, .val (.ref b71), .unset, .unset, .unset, .unset]) rfl k) ?_
      refine own_st (fr' := (mkF m 29 #[.val (.int s1), .val (.int c1), .val (.int s2), .val (.int c2), .val .null, .val .null, .val (.ref b71), .unset, .unset, .unset, .unset] [(.ref b71)])) (fun t k => XS.aload X73.here hx rfl (hb hby at_27) rfl rfl k) ?_
      refine own_callV X73 hx hZ (y := (⟨"com/example/precedence/precedence/xslt/WhitespaceStripping$NameTest", "priority", "()D"⟩ : MethodName)) (z := (⟨"com/example/precedence/precedence/xslt/WhitespaceStripping$NameTest", "priority", "()D"⟩ : MethodName)) hown (hw _ (List.mem_of_getElem? (i := 50) rfl)) (hw _ (List.mem_of_getElem? (i := 51) rfl)) (notFace_of_selects (args := #[]) (mvT hZ (hw _ (List.mem_of_getElem? (i := 53) rfl)))) (hw _ (List.mem_of_getElem? (i := 53) rfl)) (hw _ (List.mem_of_getElem? (i := 52) rfl)) (hw _ (List.mem_of_getElem? (i := 36) rfl)) (hw _ (List.mem_of_getElem? (i := 54) rfl)) (by decide) (a := b71) (argsL := []) (rest := []) (W := 0) (rm_pr00 l Z a0 hw [] b71  T73.heap n0 (Nat.le_trans (Nat.le_trans (Nat.le_trans (Nat.le_trans Z0 K69.1) K70.1) E71.1) K73.1) Fc73_0 Fc73_1) rfl (A71.keep K73) (by rw [hml]; rfl) (lenOf pd_8 rfl) rfl (Nat.le_of_eq rfl) (hb hby at_29) (by decide) (by decide) (by decide) (by decide) ?_
      intro v75 T75 L75 X75 hQ75
      obtain ⟨rfl, Nq75, eq75⟩ := hQ75
      have N75 := Fr.app N73 Nq75
      refine own_st (fr' := (mkF m 34 #[.val (.int s1), .val (.int c1), .val (.int s2), .val (.int c2), .val .null, .val .null, .val (.ref b71), .val (.double (13826050856027422720 : UInt64)), .second, .unset, .unset] [])) (fun t k => XS.dstore X75.here hx rfl (hb hby at_32) rfl  (l' := #[.val (.int s1), .val (.int c1), .val (.int s2), .val (.int c2), .val .null, .val .null, .val (.ref b71), .val (.double (13826050856027422720 : UInt64)), .second, .unset, .unset]) rfl k) ?_
      refine own_st (fr' := (mkF m 36 #[.val (.int s1), .val (.int c1), .val (.int s2), .val (.int c2), .val .null, .val .null, .val (.ref b71), .val (.double (13826050856027422720 : UInt64)), .second, .unset, .unset] [.null])) (fun t k => XS.aload X75.here hx rfl (hb hby at_34) rfl rfl k) ?_
      refine own_st (fr' := (mkF m 58 #[.val (.int s1), .val (.int c1), .val (.int s2), .val (.int c2), .val .null, .val .null, .val (.ref b71), .val (.double (13826050856027422720 : UInt64)), .second, .unset, .unset] [])) (fun t k => XS.ifnullYes X75.here hx rfl (pc0 := 36) (pc' := 58) rfl (hb hby at_36) rfl (by decide) (by decide) k) ?_
      refine own_st (fr' := (mkF m 60 #[.val (.int s1), .val (.int c1), .val (.int s2), .val (.int c2), .val .null, .val .null, .val (.ref b71), .val (.double (13826050856027422720 : UInt64)), .second, .unset, .unset] [.null])) (fun t k => XS.aload X75.here hx rfl (hb hby at_58) rfl rfl k) ?_
      refine own_st (fr' := (mkF m 71 #[.val (.int s1), .val (.int c1), .val (.int s2), .val (.int c2), .val .null, .val .null, .val (.ref b71), .val (.double (13826050856027422720 : UInt64)), .second, .unset, .unset] [])) (fun t k => XS.ifnullYes X75.here hx rfl (pc0 := 60) (pc' := 71) rfl (hb hby at_60) rfl (by decide) (by decide) k) ?_
      refine own_st (fr' := (mkF m 74 #[.val (.int s1), .val (.int c1), .val (.int s2), .val (.int c2), .val .null, .val .null, .val (.ref b71), .val (.double (13826050856027422720 : UInt64)), .second, .unset, .unset] [(.double (13826050856027422720 : UInt64))])) (fun t k => X75.ldc2DoubleC hx hown (mvT hZ (hw _ (List.mem_of_getElem? (i := 58) rfl))) (g := (mkF m 71 #[.val (.int s1), .val (.int c1), .val (.int s2), .val (.int c2), .val .null, .val .null, .val (.ref b71), .val (.double (13826050856027422720 : UInt64)), .second, .unset, .unset] [])) rfl (hb hby at_71) t k) ?_
      refine own_st (fr' := (mkF m 76 #[.val (.int s1), .val (.int c1), .val (.int s2), .val (.int c2), .val .null, .val .null, .val (.ref b71), .val (.double (13826050856027422720 : UInt64)), .second, .val (.double (13826050856027422720 : UInt64)), .second] [])) (fun t k => XS.dstore X75.here hx rfl (hb hby at_74) rfl  (l' := #[.val (.int s1), .val (.int c1), .val (.int s2), .val (.int c2), .val .null, .val .null, .val (.ref b71), .val (.double (13826050856027422720 : UInt64)), .second, .val (.double (13826050856027422720 : UInt64)), .second]) rfl k) ?_
      refine own_st (fr' := (mkF m 78 #[.val (.int s1), .val (.int c1), .val (.int s2), .val (.int c2), .val .null, .val .null, .val (.ref b71), .val (.double (13826050856027422720 : UInt64)), .second, .val (.double (13826050856027422720 : UInt64)), .second] [(.double (13826050856027422720 : UInt64))])) (fun t k => XS.dload X75.here hx rfl (hb hby at_76) rfl  k) ?_
      refine own_st (fr' := (mkF m 80 #[.val (.int s1), .val (.int c1), .val (.int s2), .val (.int c2), .val .null, .val .null, .val (.ref b71), .val (.double (13826050856027422720 : UInt64)), .second, .val (.double (13826050856027422720 : UInt64)), .second] [(.double (13826050856027422720 : UInt64)), (.double (13826050856027422720 : UInt64))])) (fun t k => XS.dload X75.here hx rfl (hb hby at_78) rfl  k) ?_
      refine own_st (fr' := (mkF m 81 #[.val (.int s1), .val (.int c1), .val (.int s2), .val (.int c2), .val .null, .val .null, .val (.ref b71), .val (.double (13826050856027422720 : UInt64)), .second, .val (.double (13826050856027422720 : UInt64)), .second] [(.int (0 : Int32))])) (fun t k => XS.dcmpS X75.here hx rfl (hb hby at_80) rfl (by decide +kernel) k) ?_
      refine own_st (fr' := (mkF m 84 #[.val (.int s1), .val (.int c1), .val (.int s2), .val (.int c2), .val .null, .val .null, .val (.ref b71), .val (.double (13826050856027422720 : UInt64)), .second, .val (.double (13826050856027422720 : UInt64)), .second] [])) (fun t k => XS.ifNo X75.here hx rfl (hb hby at_81) rfl ((if0 _ _).trans (own_teq (x := (0 : Int32)) (y := (0 : Int32)) (show 0 = 0 from rfl)).2) k) ?_
      refine own_st (fr' := (mkF m 85 #[.val (.int s1), .val (.int c1), .val (.int s2), .val (.int c2), .val .null, .val .null, .val (.ref b71), .val (.double (13826050856027422720 : UInt64)), .second, .val (.double (13826050856027422720 : UInt64)), .second] [(.int (1 : Int32))])) (fun t k => XS.iconst X75.here hx rfl (hb hby at_84) k) ?_
      refine own_st (fr' := (mkF m 89 #[.val (.int s1), .val (.int c1), .val (.int s2), .val (.int c2), .val .null, .val .null, .val (.ref b71), .val (.double (13826050856027422720 : UInt64)), .second, .val (.double (13826050856027422720 : UInt64)), .second] [(.int (1 : Int32))])) (fun t k => XS.goto X75.here hx rfl (pc0 := 85) (pc' := 89) rfl (hb hby at_85) (by decide) (by decide) k) ?_
      exact own_retC X75 hx hlk hZ hS (Nat.le_trans (Nat.le_trans (Nat.le_refl _) E71.1) K73.1) (own_ew hw) r74 eq75 hret (rfl) (Or.inl ⟨rfl, by simp [ret], _, rfl⟩) (hb hby at_89) (by decide) (by decide) (⟨rfl, N75⟩)
    · refine own_st (fr' := (mkF m 14 #[.val (.int s1), .val (.int c1), .val (.int s2), .val (.int c2), .val .null, .val (.ref u70), .unset, .unset, .unset, .unset, .unset] [])) (fun t k => XS.astore X70.here hx rfl (hb hby at_12) rfl rfl (l' := #[.val (.int s1), .val (.int c1), .val (.int s2), .val (.int c2), .val .null, .val (.ref u70), .unset, .unset, .unset, .unset, .unset]) rfl k) ?_
      obtain ⟨T76, h76, X76, e76, E76, A76, D76, -, st76⟩ := newO X70 hx hZ hown (hw _ (List.mem_of_getElem? (i := 34) rfl)) (hw _ (List.mem_of_getElem? (i := 35) rfl)) (hw _ (List.mem_of_getElem? (i := 36) rfl)) rfl (g := (mkF m 14 #[.val (.int s1), .val (.int c1), .val (.int s2), .val (.int c2), .val .null, .val (.ref u70), .unset, .unset, .unset, .unset, .unset] [])) rfl (hb hby at_14) (by decide) (by decide)
      obtain ⟨b76, g76⟩ : ∃ z, z = T70.heap.size := ⟨_, rfl⟩
      rw [← g76] at A76 D76 st76
      have ge_b76 : n0 ≤ b76 := Nat.le_trans (Nat.le_trans (Nat.le_trans Z0 K69.1) K70.1) (Nat.le_of_eq g76.symm)
      have sz_b76 : h0.size ≤ b76 := Nat.le_trans (Nat.le_trans (Nat.le_trans (Nat.le_refl _) K69.1) K70.1) (Nat.le_of_eq g76.symm)
      have r77 := CHr.trans r70 (CHr.ext E76 r70.1)
      have F76_namespaceUri : Fld Z h76 b76 "com/example/precedence/precedence/xslt/WhitespaceStripping$NameTest" "namespaceUri" "Ljava/lang/String;" .null := D76 (Or.inr (hw _ (List.mem_of_getElem? (i := 47) rfl))) (ty := (.object "java/lang/String")) (by decide)
      have F76_localName : Fld Z h76 b76 "com/example/precedence/precedence/xslt/WhitespaceStripping$NameTest" "localName" "Ljava/lang/String;" .null := D76 (Or.inr (hw _ (List.mem_of_getElem? (i := 49) rfl))) (ty := (.object "java/lang/String")) (by decide)
      refine own_st (fr' := (mkF m 17 #[.val (.int s1), .val (.int c1), .val (.int s2), .val (.int c2), .val .null, .val (.ref u70), .unset, .unset, .unset, .unset, .unset] [(.ref b76)])) st76 ?_
      refine own_st (fr' := (mkF m 18 #[.val (.int s1), .val (.int c1), .val (.int s2), .val (.int c2), .val .null, .val (.ref u70), .unset, .unset, .unset, .unset, .unset] [(.ref b76), (.ref b76)])) (fun t k => XS.dup X76.here hx rfl (hb hby at_17) rfl rfl k) ?_
      refine own_st (fr' := (mkF m 20 #[.val (.int s1), .val (.int c1), .val (.int s2), .val (.int c2), .val .null, .val (.ref u70), .unset, .unset, .unset, .unset, .unset] [.null, (.ref b76), (.ref b76)])) (fun t k => XS.aload X76.here hx rfl (hb hby at_18) rfl rfl k) ?_
      refine own_st (fr' := (mkF m 22 #[.val (.int s1), .val (.int c1), .val (.int s2), .val (.int c2), .val .null, .val (.ref u70), .unset, .unset, .unset, .unset, .unset] [(.ref u70), .null, (.ref b76), (.ref b76)])) (fun t k => XS.aload X76.here hx rfl (hb hby at_20) rfl rfl k) ?_
      refine own_callN X76 hx hZ (y := (⟨"com/example/precedence/precedence/xslt/WhitespaceStripping$NameTest", "<init>", "(Ljava/lang/String;Ljava/lang/String;)V"⟩ : MethodName)) hown rfl (hw _ (List.mem_of_getElem? (i := 37) rfl)) (hw _ (List.mem_of_getElem? (i := 38) rfl)) (hw _ (List.mem_of_getElem? (i := 36) rfl)) (hw _ (List.mem_of_getElem? (i := 39) rfl)) (by decide) (a := b76) (argsL := [.null, (.ref u70)]) (rest := [(.ref b76)]) (W := 1) (rm_ni01 l Z a0 hw [] b76 u70 h76 n0 (Nat.le_trans (Nat.le_trans (Nat.le_trans Z0 K69.1) K70.1) E76.1) F76_namespaceUri F76_localName A76 ge_b76) e76 (by rw [hml]; rfl) (lenOf pd_7 rfl) rfl (Nat.le_of_eq rfl) (hb hby at_22) (by decide) (by decide) (by decide) (by decide) ?_
      intro v78 T78 L78 X78 hQ78
      obtain ⟨rfl, Nq78, K78, Fc78_0, Fc78_1⟩ := hQ78
      have N78 := Fr.app N70 Nq78
      have r79 := CHr.trans r77 (CHr.keep K78 (allS (Safe.exa hZ.alike A76 (by decide) (by decide)) all0) r77.1)
      refine own_st (fr' := (mkF m 27 #[.val (.int s1), .val (.int c1), .val (.int s2), .val (.int c2), .val .null, .val (.ref u70), .val (.ref b76), .unset, .unset, .unset, .unset] [])) (fun t k => XS.astore X78.here hx rfl (hb hby at_25) rfl rfl (l' := #[.val (.int s1), .val (.int c1), .val (.int s2), .val (.int c2), .val .null, .val (.ref u70), .val (.ref b76), .unset, .unset, .unset, .unset]) rfl k) ?_
      refine own_st (fr' := (mkF m 29 #[.val (.int s1), .val (.int c1), .val (.int s2), .val (.int c2), .val .null, .val (.ref u70), .val (.ref b76), .unset, .unset, .unset, .unset] [(.ref b76)])) (fun t k => XS.aload X78.here hx rfl (hb hby at_27) rfl rfl k) ?_
      refine own_callV X78 hx hZ (y := (⟨"com/example/precedence/precedence/xslt/WhitespaceStripping$NameTest", "priority", "()D"⟩ : MethodName)) (z := (⟨"com/example/precedence/precedence/xslt/WhitespaceStripping$NameTest", "priority", "()D"⟩ : MethodName)) hown (hw _ (List.mem_of_getElem? (i := 50) rfl)) (hw _ (List.mem_of_getElem? (i := 51) rfl)) (notFace_of_selects (args := #[]) (mvT hZ (hw _ (List.mem_of_getElem? (i := 53) rfl)))) (hw _ (List.mem_of_getElem? (i := 53) rfl)) (hw _ (List.mem_of_getElem? (i := 52) rfl)) (hw _ (List.mem_of_getElem? (i := 36) rfl)) (hw _ (List.mem_of_getElem? (i := 54) rfl)) (by decide) (a := b76) (argsL := []) (rest := []) (W := 0) (rm_pr01 l Z a0 hw [] b76 u70 T78.heap n0 (Nat.le_trans (Nat.le_trans (Nat.le_trans (Nat.le_trans Z0 K69.1) K70.1) E76.1) K78.1) Fc78_0 Fc78_1) rfl (A76.keep K78) (by rw [hml]; rfl) (lenOf pd_8 rfl) rfl (Nat.le_of_eq rfl) (hb hby at_29) (by decide) (by decide) (by decide) (by decide) ?_
      intro v80 T80 L80 X80 hQ80
      obtain ⟨rfl, Nq80, eq80⟩ := hQ80
      have N80 := Fr.app N78 Nq80
      refine own_st (fr' := (mkF m 34 #[.val (.int s1), .val (.int c1), .val (.int s2), .val (.int c2), .val .null, .val (.ref u70), .val (.ref b76), .val (.double (13821547256400052224 : UInt64)), .second, .unset, .unset] [])) (fun t k => XS.dstore X80.here hx rfl (hb hby at_32) rfl  (l' := #[.val (.int s1), .val (.int c1), .val (.int s2), .val (.int c2), .val .null, .val (.ref u70), .val (.ref b76), .val (.double (13821547256400052224 : UInt64)), .second, .unset, .unset]) rfl k) ?_
      refine own_st (fr' := (mkF m 36 #[.val (.int s1), .val (.int c1), .val (.int s2), .val (.int c2), .val .null, .val (.ref u70), .val (.ref b76), .val (.double (13821547256400052224 : UInt64)), .second, .unset, .unset] [.null])) (fun t k => XS.aload X80.here hx rfl (hb hby at_34) rfl rfl k) ?_
      refine own_st (fr' := (mkF m 58 #[.val (.int s1), .val (.int c1), .val (.int s2), .val (.int c2), .val .null, .val (.ref u70), .val (.ref b76), .val (.double (13821547256400052224 : UInt64)), .second, .unset, .unset] [])) (fun t k => XS.ifnullYes X80.here hx rfl (pc0 := 36) (pc' := 58) rfl (hb hby at_36) rfl (by decide) (by decide) k) ?_
      refine own_st (fr' := (mkF m 60 #[.val (.int s1), .val (.int c1), .val (.int s2), .val (.int c2), .val .null, .val (.ref u70), .val (.ref b76), .val (.double (13821547256400052224 : UInt64)), .second, .unset, .unset] [(.ref u70)])) (fun t k => XS.aload X80.here hx rfl (hb hby at_58) rfl rfl k) ?_
      refine own_st (fr' := (mkF m 63 #[.val (.int s1), .val (.int c1), .val (.int s2), .val (.int c2), .val .null, .val (.ref u70), .val (.ref b76), .val (.double (13821547256400052224 : UInt64)), .second, .unset, .unset] [])) (fun t k => XS.ifnullNo X80.here hx rfl (hb hby at_60) rfl k) ?_
      refine own_st (fr' := (mkF m 66 #[.val (.int s1), .val (.int c1), .val (.int s2), .val (.int c2), .val .null, .val (.ref u70), .val (.ref b76), .val (.double (13821547256400052224 : UInt64)), .second, .unset, .unset] [(.double (13821547256400052224 : UInt64))])) (fun t k => X80.ldc2DoubleC hx hown (mvT hZ (hw _ (List.mem_of_getElem? (i := 56) rfl))) (g := (mkF m 63 #[.val (.int s1), .val (.int c1), .val (.int s2), .val (.int c2), .val .null, .val (.ref u70), .val (.ref b76), .val (.double (13821547256400052224 : UInt64)), .second, .unset, .unset] [])) rfl (hb hby at_63) t k) ?_
      refine own_st (fr' := (mkF m 68 #[.val (.int s1), .val (.int c1), .val (.int s2), .val (.int c2), .val .null, .val (.ref u70), .val (.ref b76), .val (.double (13821547256400052224 : UInt64)), .second, .val (.double (13821547256400052224 : UInt64)), .second] [])) (fun t k => XS.dstore X80.here hx rfl (hb hby at_66) rfl  (l' := #[.val (.int s1), .val (.int c1), .val (.int s2), .val (.int c2), .val .null, .val (.ref u70), .val (.ref b76), .val (.double (13821547256400052224 : UInt64)), .second, .val (.double (13821547256400052224 : UInt64)), .second]) rfl k) ?_
      refine own_st (fr' := (mkF m 76 #[.val (.int s1), .val (.int c1), .val (.int s2), .val (.int c2), .val .null, .val (.ref u70), .val (.ref b76), .val (.double (13821547256400052224 : UInt64)), .second, .val (.double (13821547256400052224 : UInt64)), .second] [])) (fun t k => XS.goto X80.here hx rfl (pc0 := 68) (pc' := 76) rfl (hb hby at_68) (by decide) (by decide) k) ?_
      refine own_st (fr' := (mkF m 78 #[.val (.int s1), .val (.int c1), .val (.int s2), .val (.int c2), .val .null, .val (.ref u70), .val (.ref b76), .val (.double (13821547256400052224 : UInt64)), .second, .val (.double (13821547256400052224 : UInt64)), .second] [(.double (13821547256400052224 : UInt64))])) (fun t k => XS.dload X80.here hx rfl (hb hby at_76) rfl  k) ?_
      refine own_st (fr' := (mkF m 80 #[.val (.int s1), .val (.int c1), .val (.int s2), .val (.int c2), .val .null, .val (.ref u70), .val (.ref b76), .val (.double (13821547256400052224 : UInt64)), .second, .val (.double (13821547256400052224 : UInt64)), .second] [(.double (13821547256400052224 : UInt64)), (.double (13821547256400052224 : UInt64))])) (fun t k => XS.dload X80.here hx rfl (hb hby at_78) rfl  k) ?_
      refine own_st (fr' := (mkF m 81 #[.val (.int s1), .val (.int c1), .val (.int s2), .val (.int c2), .val .null, .val (.ref u70), .val (.ref b76), .val (.double (13821547256400052224 : UInt64)), .second, .val (.double (13821547256400052224 : UInt64)), .second] [(.int (0 : Int32))])) (fun t k => XS.dcmpS X80.here hx rfl (hb hby at_80) rfl (by decide +kernel) k) ?_
      refine own_st (fr' := (mkF m 84 #[.val (.int s1), .val (.int c1), .val (.int s2), .val (.int c2), .val .null, .val (.ref u70), .val (.ref b76), .val (.double (13821547256400052224 : UInt64)), .second, .val (.double (13821547256400052224 : UInt64)), .second] [])) (fun t k => XS.ifNo X80.here hx rfl (hb hby at_81) rfl ((if0 _ _).trans (own_teq (x := (0 : Int32)) (y := (0 : Int32)) (show 0 = 0 from rfl)).2) k) ?_
      refine own_st (fr' := (mkF m 85 #[.val (.int s1), .val (.int c1), .val (.int s2), .val (.int c2), .val .null, .val (.ref u70), .val (.ref b76), .val (.double (13821547256400052224 : UInt64)), .second, .val (.double (13821547256400052224 : UInt64)), .second] [(.int (1 : Int32))])) (fun t k => XS.iconst X80.here hx rfl (hb hby at_84) k) ?_
      refine own_st (fr' := (mkF m 89 #[.val (.int s1), .val (.int c1), .val (.int s2), .val (.int c2), .val .null, .val (.ref u70), .val (.ref b76), .val (.double (13821547256400052224 : UInt64)), .second, .val (.double (13821547256400052224 : UInt64)), .second] [(.int (1 : Int32))])) (fun t k => XS.goto X80.here hx rfl (pc0 := 85) (pc' := 89) rfl (hb hby at_85) (by decide) (by decide) k) ?_
      exact own_retC X80 hx hlk hZ hS (Nat.le_trans (Nat.le_trans (Nat.le_refl _) E76.1) K78.1) (own_ew hw) r79 eq80 hret (rfl) (Or.inl ⟨rfl, by simp [ret], _, rfl⟩) (hb hby at_89) (by decide) (by decide) (⟨rfl, N80⟩)
  · refine own_st (fr' := (mkF m 7 #[.val (.int s1), .val (.int c1), .val (.int s2), .val (.int c2), .val (.ref u69), .unset, .unset, .unset, .unset, .unset, .unset] [])) (fun t k => XS.astore X69.here hx rfl (hb hby at_5) rfl rfl (l' := #[.val (.int s1), .val (.int c1), .val (.int s2), .val (.int c2), .val (.ref u69), .unset, .unset, .unset, .unset, .unset, .unset]) rfl k) ?_
    refine own_st (fr' := (mkF m 8 #[.val (.int s1), .val (.int c1), .val (.int s2), .val (.int c2), .val (.ref u69), .unset, .unset, .unset, .unset, .unset, .unset] [(.int s2)])) (fun t k => XS.iloadN X69.here hx rfl (hb hby at_7) rfl  k) ?_
    refine own_st (fr' := (mkF m 9 #[.val (.int s1), .val (.int c1), .val (.int s2), .val (.int c2), .val (.ref u69), .unset, .unset, .unset, .unset, .unset, .unset] [(.int c2), (.int s2)])) (fun t k => XS.iloadN X69.here hx rfl (hb hby at_8) rfl  k) ?_
    refine own_callSC X69 hx hZ hS (Nat.le_refl _) (own_ew hw) r69 (y := (⟨"com/example/precedence/precedence/xslt/NameTestPriorityPinLaw", "draw", "(II)Ljava/lang/String;"⟩ : MethodName)) hown (hw _ (List.mem_of_getElem? (i := 0) rfl)) (hw _ (List.mem_of_getElem? (i := 1) rfl)) (hw _ (List.mem_of_getElem? (i := 2) rfl)) (hw _ (List.mem_of_getElem? (i := 3) rfl)) (by decide) (argsL := [(.int s2), (.int c2)]) (rest := []) (W := 0) (rm_draw l Z a0 hw [] s2 c2 cz T69.heap n0 (Nat.le_trans Z0 K69.1) (own_sk0 S_cs K69) hcz) rfl  (by rw [hml]; rfl) (lenOf pd_6 rfl) rfl (Nat.le_of_eq rfl) (hb hby at_9) (by decide) (by decide) (by decide) (by decide) ?_
    intro v81 T81 L81 vm81 X81 hQ81 hZ hown hS rc81 r81
    obtain ⟨hv81, Nq81, K81⟩ := hQ81
    have N81 := Fr.app N69 Nq81
    rcases hv81 with rfl | ⟨u81, rfl⟩
    · refine own_st (fr' := (mkF m 14 #[.val (.int s1), .val (.int c1), .val (.int s2), .val (.int c2), .val (.ref u69), .val .null, .unset, .unset, .unset, .unset, .unset] [])) (fun t k => XS.astore X81.here hx rfl (hb hby at_12) rfl rfl (l' := #[.val (.int s1), .val (.int c1), .val (.int s2), .val (.int c2), .val (.ref u69), .val .null, .unset, .unset, .unset, .unset, .unset]) rfl k) ?_
      obtain ⟨T82, h82, X82, e82, E82, A82, D82, -, st82⟩ := newO X81 hx hZ hown (hw _ (List.mem_of_getElem? (i := 34) rfl)) (hw _ (List.mem_of_getElem? (i := 35) rfl)) (hw _ (List.mem_of_getElem? (i := 36) rfl)) rfl (g := (mkF m 14 #[.val (.int s1), .val (.int c1), .val (.int s2), .val (.int c2), .val (.ref u69), .val .null, .unset, .unset, .unset, .unset, .unset] [])) rfl (hb hby at_14) (by decide) (by decide)
      obtain ⟨b82, g82⟩ : ∃ z, z = T81.heap.size := ⟨_, rfl⟩
      rw [← g82] at A82 D82 st82
      have ge_b82 : n0 ≤ b82 := Nat.le_trans (Nat.le_trans (Nat.le_trans Z0 K69.1) K81.1) (Nat.le_of_eq g82.symm)
      have sz_b82 : h0.size ≤ b82 := Nat.le_trans (Nat.le_trans (Nat.le_trans (Nat.le_refl _) K69.1) K81.1) (Nat.le_of_eq g82.symm)
      have r83 := CHr.trans r81 (CHr.ext E82 r81.1)
      have F82_namespaceUri : Fld Z h82 b82 "com/example/precedence/precedence/xslt/WhitespaceStripping$NameTest" "namespaceUri" "Ljava/lang/String;" .null := D82 (Or.inr (hw _ (List.mem_of_getElem? (i := 47) rfl))) (ty := (.object "java/lang/String")) (by decide)
      have F82_localName : Fld Z h82 b82 "com/example/precedence/precedence/xslt/WhitespaceStripping$NameTest" "localName" "Ljava/lang/String;" .null := D82 (Or.inr (hw _ (List.mem_of_getElem? (i := 49) rfl))) (ty := (.object "java/lang/String")) (by decide)
      refine own_st (fr' := (mkF m 17 #[.val (.int s1), .val (.int c1), .val (.int s2), .val (.int c2), .val (.ref u69), .val .null, .unset, .unset, .unset, .unset, .unset] [(.ref b82)])) st82 ?_
      refine own_st (fr' := (mkF m 18 #[.val (.int s1), .val (.int c1), .val (.int s2), .val (.int c2), .val (.ref u69), .val .null, .unset, .unset, .unset, .unset, .unset] [(.ref b82), (.ref b82)])) (fun t k => XS.dup X82.here hx rfl (hb hby at_17) rfl rfl k) ?_
      refine own_st (fr' := (mkF m 20 #[.val (.int s1), .val (.int c1), .val (.int s2), .val (.int c2), .val (.ref u69), .val .null, .unset, .unset, .unset, .unset, .unset] [(.ref u69), (.ref b82), (.ref b82)])) (fun t k => XS.aload X82.here hx rfl (hb hby at_18) rfl rfl k) ?_
      refine own_st (fr' := (mkF m 22 #[.val (.int s1), .val (.int c1), .val (.int s2), .val (.int c2), .val (.ref u69), .val .null, .unset, .unset, .unset, .unset, .unset] [.null, (.ref u69), (.ref b82), (.ref b82)])) (fun t k => XS.aload X82.here hx rfl (hb hby at_20) rfl rfl k) ?_
      refine own_callN X82 hx hZ (y := (⟨"com/example/precedence/precedence/xslt/WhitespaceStripping$NameTest", "<init>", "(Ljava/lang/String;Ljava/lang/String;)V"⟩ : MethodName)) hown rfl (hw _ (List.mem_of_getElem? (i := 37) rfl)) (hw _ (List.mem_of_getElem? (i := 38) rfl)) (hw _ (List.mem_of_getElem? (i := 36) rfl)) (hw _ (List.mem_of_getElem? (i := 39) rfl)) (by decide) (a := b82) (argsL := [(.ref u69), .null]) (rest := [(.ref b82)]) (W := 1) (rm_ni10 l Z a0 hw [] b82 u69 h82 n0 (Nat.le_trans (Nat.le_trans (Nat.le_trans Z0 K69.1) K81.1) E82.1) F82_namespaceUri F82_localName A82 ge_b82) e82 (by rw [hml]; rfl) (lenOf pd_7 rfl) rfl (Nat.le_of_eq rfl) (hb hby at_22) (by decide) (by decide) (by decide) (by decide) ?_
      intro v84 T84 L84 X84 hQ84
      obtain ⟨rfl, Nq84, K84, Fc84_0, Fc84_1⟩ := hQ84
      have N84 := Fr.app N81 Nq84
      have r85 := CHr.trans r83 (CHr.keep K84 (allS (Safe.exa hZ.alike A82 (by decide) (by decide)) all0) r83.1)
      refine own_st (fr' := (mkF m 27 #[.val (.int s1), .val (.int c1), .val (.int s2), .val (.int c2), .val (.ref u69), .val .null, .val (.ref b82), .unset, .unset, .unset, .unset] [])) (fun t k => XS.astore X84.here hx rfl (hb hby at_25) rfl rfl (l' := #[.val (.int s1), .val (.int c1), .val (.int s2), .val (.int c2), .val (.ref u69), .val .null, .val (.ref b82), .unset, .unset, .unset, .unset]) rfl k) ?_
      refine own_st (fr' := (mkF m 29 #[.val (.int s1), .val (.int c1), .val (.int s2), .val (.int c2), .val (.ref u69), .val .null, .val (.ref b82), .unset, .unset, .unset, .unset] [(.ref b82)])) (fun t k => XS.aload X84.here hx rfl (hb hby at_27) rfl rfl k) ?_
      refine own_callV X84 hx hZ (y := (⟨"com/example/precedence/precedence/xslt/WhitespaceStripping$NameTest", "priority", "()D"⟩ : MethodName)) (z := (⟨"com/example/precedence/precedence/xslt/WhitespaceStripping$NameTest", "priority", "()D"⟩ : MethodName)) hown (hw _ (List.mem_of_getElem? (i := 50) rfl)) (hw _ (List.mem_of_getElem? (i := 51) rfl)) (notFace_of_selects (args := #[]) (mvT hZ (hw _ (List.mem_of_getElem? (i := 53) rfl)))) (hw _ (List.mem_of_getElem? (i := 53) rfl)) (hw _ (List.mem_of_getElem? (i := 52) rfl)) (hw _ (List.mem_of_getElem? (i := 36) rfl)) (hw _ (List.mem_of_getElem? (i := 54) rfl)) (by decide) (a := b82) (argsL := []) (rest := []) (W := 0) (rm_pr10 l Z a0 hw [] b82 u69 T84.heap n0 (Nat.le_trans (Nat.le_trans (Nat.le_trans (Nat.le_trans Z0 K69.1) K81.1) E82.1) K84.1) Fc84_0 Fc84_1) rfl (A82.keep K84) (by rw [hml]; rfl) (lenOf pd_8 rfl) rfl (Nat.le_of_eq rfl) (hb hby at_29) (by decide) (by decide) (by decide) (by decide) ?_
      intro v86 T86 L86 X86 hQ86
      obtain ⟨rfl, Nq86, eq86⟩ := hQ86
      have N86 := Fr.app N84 Nq86
      refine own_st (fr' := (mkF m 34 #[.val (.int s1), .val (.int c1), .val (.int s2), .val (.int c2), .val (.ref u69), .val .null, .val (.ref b82), .val (.double (13821547256400052224 : UInt64)), .second, .unset, .unset] [])) (fun t k => XS.dstore X86.here hx rfl (hb hby at_32) rfl  (l' := #[.val (.int s1), .val (.int c1), .val (.int s2), .val (.int c2), .val (.ref u69), .val .null, .val (.ref b82), .val (.double (13821547256400052224 : UInt64)), .second, .unset, .unset]) rfl k) ?_
      refine own_st (fr' := (mkF m 36 #[.val (.int s1), .val (.int c1), .val (.int s2), .val (.int c2), .val (.ref u69), .val .null, .val (.ref b82), .val (.double (13821547256400052224 : UInt64)), .second, .unset, .unset] [(.ref u69)])) (fun t k => XS.aload X86.here hx rfl (hb hby at_34) rfl rfl k) ?_
      refine own_st (fr' := (mkF m 39 #[.val (.int s1), .val (.int c1), .val (.int s2), .val (.int c2), .val (.ref u69), .val .null, .val (.ref b82), .val (.double (13821547256400052224 : UInt64)), .second, .unset, .unset] [])) (fun t k => XS.ifnullNo X86.here hx rfl (hb hby at_36) rfl k) ?_
      refine own_st (fr' := (mkF m 41 #[.val (.int s1), .val (.int c1), .val (.int s2), .val (.int c2), .val (.ref u69), .val .null, .val (.ref b82), .val (.double (13821547256400052224 : UInt64)), .second, .unset, .unset] [.null])) (fun t k => XS.aload X86.here hx rfl (hb hby at_39) rfl rfl k) ?_
      refine own_st (fr' := (mkF m 50 #[.val (.int s1), .val (.int c1), .val (.int s2), .val (.int c2), .val (.ref u69), .val .null, .val (.ref b82), .val (.double (13821547256400052224 : UInt64)), .second, .unset, .unset] [])) (fun t k => XS.ifnullYes X86.here hx rfl (pc0 := 41) (pc' := 50) rfl (hb hby at_41) rfl (by decide) (by decide) k) ?_
      refine own_st (fr' := (mkF m 53 #[.val (.int s1), .val (.int c1), .val (.int s2), .val (.int c2), .val (.ref u69), .val .null, .val (.ref b82), .val (.double (13821547256400052224 : UInt64)), .second, .unset, .unset] [(.double (13821547256400052224 : UInt64))])) (fun t k => X86.ldc2DoubleC hx hown (mvT hZ (hw _ (List.mem_of_getElem? (i := 56) rfl))) (g := (mkF m 50 #[.val (.int s1), .val (.int c1), .val (.int s2), .val (.int c2), .val (.ref u69), .val .null, .val (.ref b82), .val (.double (13821547256400052224 : UInt64)), .second, .unset, .unset] [])) rfl (hb hby at_50) t k) ?_
      refine own_st (fr' := (mkF m 55 #[.val (.int s1), .val (.int c1), .val (.int s2), .val (.int c2), .val (.ref u69), .val .null, .val (.ref b82), .val (.double (13821547256400052224 : UInt64)), .second, .val (.double (13821547256400052224 : UInt64)), .second] [])) (fun t k => XS.dstore X86.here hx rfl (hb hby at_53) rfl  (l' := #[.val (.int s1), .val (.int c1), .val (.int s2), .val (.int c2), .val (.ref u69), .val .null, .val (.ref b82), .val (.double (13821547256400052224 : UInt64)), .second, .val (.double (13821547256400052224 : UInt64)), .second]) rfl k) ?_
      refine own_st (fr' := (mkF m 76 #[.val (.int s1), .val (.int c1), .val (.int s2), .val (.int c2), .val (.ref u69), .val .null, .val (.ref b82), .val (.double (13821547256400052224 : UInt64)), .second, .val (.double (13821547256400052224 : UInt64)), .second] [])) (fun t k => XS.goto X86.here hx rfl (pc0 := 55) (pc' := 76) rfl (hb hby at_55) (by decide) (by decide) k) ?_
      refine own_st (fr' := (mkF m 78 #[.val (.int s1), .val (.int c1), .val (.int s2), .val (.int c2), .val (.ref u69), .val .null, .val (.ref b82), .val (.double (13821547256400052224 : UInt64)), .second, .val (.double (13821547256400052224 : UInt64)), .second] [(.double (13821547256400052224 : UInt64))])) (fun t k => XS.dload X86.here hx rfl (hb hby at_76) rfl  k) ?_
      refine own_st (fr' := (mkF m 80 #[.val (.int s1), .val (.int c1), .val (.int s2), .val (.int c2), .val (.ref u69), .val .null, .val (.ref b82), .val (.double (13821547256400052224 : UInt64)), .second, .val (.double (13821547256400052224 : UInt64)), .second] [(.double (13821547256400052224 : UInt64)), (.double (13821547256400052224 : UInt64))])) (fun t k => XS.dload X86.here hx rfl (hb hby at_78) rfl  k) ?_
      refine own_st (fr' := (mkF m 81 #[.val (.int s1), .val (.int c1), .val (.int s2), .val (.int c2), .val (.ref u69), .val .null, .val (.ref b82), .val (.double (13821547256400052224 : UInt64)), .second, .val (.double (13821547256400052224 : UInt64)), .second] [(.int (0 : Int32))])) (fun t k => XS.dcmpS X86.here hx rfl (hb hby at_80) rfl (by decide +kernel) k) ?_
      refine own_st (fr' := (mkF m 84 #[.val (.int s1), .val (.int c1), .val (.int s2), .val (.int c2), .val (.ref u69), .val .null, .val (.ref b82), .val (.double (13821547256400052224 : UInt64)), .second, .val (.double (13821547256400052224 : UInt64)), .second] [])) (fun t k => XS.ifNo X86.here hx rfl (hb hby at_81) rfl ((if0 _ _).trans (own_teq (x := (0 : Int32)) (y := (0 : Int32)) (show 0 = 0 from rfl)).2) k) ?_
      refine own_st (fr' := (mkF m 85 #[.val (.int s1), .val (.int c1), .val (.int s2), .val (.int c2), .val (.ref u69), .val .null, .val (.ref b82), .val (.double (13821547256400052224 : UInt64)), .second, .val (.double (13821547256400052224 : UInt64)), .second] [(.int (1 : Int32))])) (fun t k => XS.iconst X86.here hx rfl (hb hby at_84) k) ?_
      refine own_st (fr' := (mkF m 89 #[.val (.int s1), .val (.int c1), .val (.int s2), .val (.int c2), .val (.ref u69), .val .null, .val (.ref b82), .val (.double (13821547256400052224 : UInt64)), .second, .val (.double (13821547256400052224 : UInt64)), .second] [(.int (1 : Int32))])) (fun t k => XS.goto X86.here hx rfl (pc0 := 85) (pc' := 89) rfl (hb hby at_85) (by decide) (by decide) k) ?_
      exact own_retC X86 hx hlk hZ hS (Nat.le_trans (Nat.le_trans (Nat.le_refl _) E82.1) K84.1) (own_ew hw) r85 eq86 hret (rfl) (Or.inl ⟨rfl, by simp [ret], _, rfl⟩) (hb hby at_89) (by decide) (by decide) (⟨rfl, N86⟩)
    · refine own_st (fr' := (mkF m 14 #[.val (.int s1), .val (.int c1), .val (.int s2), .val (.int c2), .val (.ref u69), .val (.ref u81), .unset, .unset, .unset, .unset, .unset] [])) (fun t k => XS.astore X81.here hx rfl (hb hby at_12) rfl rfl (l' := #[.val (.int s1), .val (.int c1), .val (.int s2), .val (.int c2), .val (.ref u69), .val (.ref u81), .unset, .unset, .unset, .unset, .unset]) rfl k) ?_
      obtain ⟨T87, h87, X87, e87, E87, A87, D87, -, st87⟩ := newO X81 hx hZ hown (hw _ (List.mem_of_getElem? (i := 34) rfl)) (hw _ (List.mem_of_getElem? (i := 35) rfl)) (hw _ (List.mem_of_getElem? (i := 36) rfl)) rfl (g := (mkF m 14 #[.val (.int s1), .val (.int c1), .val (.int s2), .val (.int c2), .val (.ref u69), .val (.ref u81), .unset, .unset, .unset, .unset, .unset] [])) rfl (hb hby at_14) (by decide) (by decide)
      obtain ⟨b87, g87⟩ : ∃ z, z = T81.heap.size := ⟨_, rfl⟩
      rw [← g87] at A87 D87 st87
      have ge_b87 : n0 ≤ b87 := Nat.le_trans (Nat.le_trans (Nat.le_trans Z0 K69.1) K81.1) (Nat.le_of_eq g87.symm)
      have sz_b87 : h0.size ≤ b87 := Nat.le_trans (Nat.le_trans (Nat.le_trans (Nat.le_refl _) K69.1) K81.1) (Nat.le_of_eq g87.symm)
      have r88 := CHr.trans r81 (CHr.ext E87 r81.1)
      have F87_namespaceUri : Fld Z h87 b87 "com/example/precedence/precedence/xslt/WhitespaceStripping$NameTest" "namespaceUri" "Ljava/lang/String;" .null := D87 (Or.inr (hw _ (List.mem_of_getElem? (i := 47) rfl))) (ty := (.object "java/lang/String")) (by decide)
      have F87_localName : Fld Z h87 b87 "com/example/precedence/precedence/xslt/WhitespaceStripping$NameTest" "localName" "Ljava/lang/String;" .null := D87 (Or.inr (hw _ (List.mem_of_getElem? (i := 49) rfl))) (ty := (.object "java/lang/String")) (by decide)
      refine own_st (fr' := (mkF m 17 #[.val (.int s1), .val (.int c1), .val (.int s2), .val (.int c2), .val (.ref u69), .val (.ref u81), .unset, .unset, .unset, .unset, .unset] [(.ref b87)])) st87 ?_
      refine own_st (fr' := (mkF m 18 #[.val (.int s1), .val (.int c1), .val (.int s2), .val (.int c2), .val (.ref u69), .val (.ref u81), .unset, .unset, .unset, .unset, .unset] [(.ref b87), (.ref b87)])) (fun t k => XS.dup X87.here hx rfl (hb hby at_17) rfl rfl k) ?_
      refine own_st (fr' := (mkF m 20 #[.val (.int s1), .val (.int c1), .val (.int s2), .val (.int c2), .val (.ref u69), .val (.ref u81), .unset, .unset, .unset, .unset, .unset] [(.ref u69), (.ref b87), (.ref b87)])) (fun t k => XS.aload X87.here hx rfl (hb hby at_18) rfl rfl k) ?_
      refine own_st (fr' := (mkF m 22 #[.val (.int s1), .val (.int c1), .val (.int s2), .val (.int c2), .val (.ref u69), .val (.ref u81), .unset, .unset, .unset, .unset, .unset] [(.ref u81), (.ref u69), (.ref b87), (.ref b87)])) (fun t k => XS.aload X87.here hx rfl (hb hby at_20) rfl rfl k) ?_
      refine own_callN X87 hx hZ (y := (⟨"com/example/precedence/precedence/xslt/WhitespaceStripping$NameTest", "<init>", "(Ljava/lang/String;Ljava/lang/String;)V"⟩ : MethodName)) hown rfl (hw _ (List.mem_of_getElem? (i := 37) rfl)) (hw _ (List.mem_of_getElem? (i := 38) rfl)) (hw _ (List.mem_of_getElem? (i := 36) rfl)) (hw _ (List.mem_of_getElem? (i := 39) rfl)) (by decide) (a := b87) (argsL := [(.ref u69), (.ref u81)]) (rest := [(.ref b87)]) (W := 1) (rm_ni11 l Z a0 hw [] b87 u69 u81 h87 n0 (Nat.le_trans (Nat.le_trans (Nat.le_trans Z0 K69.1) K81.1) E87.1) F87_namespaceUri F87_localName A87 ge_b87) e87 (by rw [hml]; rfl) (lenOf pd_7 rfl) rfl (Nat.le_of_eq rfl) (hb hby at_22) (by decide) (by decide) (by decide) (by decide) ?_
      intro v89 T89 L89 X89 hQ89
      obtain ⟨rfl, Nq89, K89, Fc89_0, Fc89_1⟩ := hQ89
      have N89 := Fr.app N81 Nq89
      have r90 := CHr.trans r88 (CHr.keep K89 (allS (Safe.exa hZ.alike A87 (by decide) (by decide)) all0) r88.1)
      refine own_st (fr' := (mkF m 27 #[.val (.int s1), .val (.int c1), .val (.int s2), .val (.int c2), .val (.ref u69), .val (.ref u81), .val (.ref b87), .unset, .unset, .unset, .unset] [])) (fun t k => XS.astore X89.here hx rfl (hb hby at_25) rfl rfl (l' := #[.val (.int s1), .val (.int c1), .val (.int s2), .val (.int c2), .val (.ref u69), .val (.ref u81), .val (.ref b87), .unset, .unset, .unset, .unset]) rfl k) ?_
      refine own_st (fr' := (mkF m 29 #[.val (.int s1), .val (.int c1), .val (.int s2), .val (.int c2), .val (.ref u69), .val (.ref u81), .val (.ref b87), .unset, .unset, .unset, .unset] [(.ref b87)])) (fun t k => XS.aload X89.here hx rfl (hb hby at_27) rfl rfl k) ?_
      refine own_callV X89 hx hZ (y := (⟨"com/example/precedence/precedence/xslt/WhitespaceStripping$NameTest", "priority", "()D"⟩ : MethodName)) (z := (⟨"com/example/precedence/precedence/xslt/WhitespaceStripping$NameTest", "priority", "()D"⟩ : MethodName)) hown (hw _ (List.mem_of_getElem? (i := 50) rfl)) (hw _ (List.mem_of_getElem? (i := 51) rfl)) (notFace_of_selects (args := #[]) (mvT hZ (hw _ (List.mem_of_getElem? (i := 53) rfl)))) (hw _ (List.mem_of_getElem? (i := 53) rfl)) (hw _ (List.mem_of_getElem? (i := 52) rfl)) (hw _ (List.mem_of_getElem? (i := 36) rfl)) (hw _ (List.mem_of_getElem? (i := 54) rfl)) (by decide) (a := b87) (argsL := []) (rest := []) (W := 0) (rm_pr11 l Z a0 hw [] b87 u69 u81 T89.heap n0 (Nat.le_trans (Nat.le_trans (Nat.le_trans (Nat.le_trans Z0 K69.1) K81.1) E87.1) K89.1) Fc89_0 Fc89_1) rfl (A87.keep K89) (by rw [hml]; rfl) (lenOf pd_8 rfl) rfl (Nat.le_of_eq rfl) (hb hby at_29) (by decide) (by decide) (by decide) (by decide) ?_
      intro v91 T91 L91 X91 hQ91
      obtain ⟨rfl, Nq91, eq91⟩ := hQ91
      have N91 := Fr.app N89 Nq91
      refine own_st (fr' := (mkF m 34 #[.val (.int s1), .val (.int c1), .val (.int s2), .val (.int c2), .val (.ref u69), .val (.ref u81), .val (.ref b87), .val (.double (0 : UInt64)), .second, .unset, .unset] [])) (fun t k => XS.dstore X91.here hx rfl (hb hby at_32) rfl  (l' := #[.val (.int s1), .val (.int c1), .val (.int s2), .val (.int c2), .val (.ref u69), .val (.ref u81), .val (.ref b87), .val (.double (0 : UInt64)), .second, .unset, .unset]) rfl k) ?_
      refine own_st (fr' := (mkF m 36 #[.val (.int s1), .val (.int c1), .val (.int s2), .val (.int c2), .val (.ref u69), .val (.ref u81), .val (.ref b87), .val (.double (0 : UInt64)), .second, .unset, .unset] [(.ref u69)])) (fun t k => XS.aload X91.here hx rfl (hb hby at_34) rfl rfl k) ?_
      refine own_st (fr' := (mkF m 39 #[.val (.int s1), .val (.int c1), .val (.int s2), .val (.int c2), .val (.ref u69), .val (.ref u81), .val (.ref b87), .val (.double (0 : UInt64)), .second, .unset, .unset] [])) (fun t k => XS.ifnullNo X91.here hx rfl (hb hby at_36) rfl k) ?_
      refine own_st (fr' := (mkF m 41 #[.val (.int s1), .val (.int c1), .val (.int s2), .val (.int c2), .val (.ref u69), .val (.ref u81), .val (.ref b87), .val (.double (0 : UInt64)), .second, .unset, .unset] [(.ref u81)])) (fun t k => XS.aload X91.here hx rfl (hb hby at_39) rfl rfl k) ?_
      refine own_st (fr' := (mkF m 44 #[.val (.int s1), .val (.int c1), .val (.int s2), .val (.int c2), .val (.ref u69), .val (.ref u81), .val (.ref b87), .val (.double (0 : UInt64)), .second, .unset, .unset] [])) (fun t k => XS.ifnullNo X91.here hx rfl (hb hby at_41) rfl k) ?_
      refine own_st (fr' := (mkF m 45 #[.val (.int s1), .val (.int c1), .val (.int s2), .val (.int c2), .val (.ref u69), .val (.ref u81), .val (.ref b87), .val (.double (0 : UInt64)), .second, .unset, .unset] [(.double (0 : UInt64))])) (fun t k => XS.dconst0 X91.here hx rfl (hb hby at_44) rfl k) ?_
      refine own_st (fr' := (mkF m 47 #[.val (.int s1), .val (.int c1), .val (.int s2), .val (.int c2), .val (.ref u69), .val (.ref u81), .val (.ref b87), .val (.double (0 : UInt64)), .second, .val (.double (0 : UInt64)), .second] [])) (fun t k => XS.dstore X91.here hx rfl (hb hby at_45) rfl  (l' := #[.val (.int s1), .val (.int c1), .val (.int s2), .val (.int c2), .val (.ref u69), .val (.ref u81), .val (.ref b87), .val (.double (0 : UInt64)), .second, .val (.double (0 : UInt64)), .second]) rfl k) ?_
      refine own_st (fr' := (mkF m 76 #[.val (.int s1), .val (.int c1), .val (.int s2), .val (.int c2), .val (.ref u69), .val (.ref u81), .val (.ref b87), .val (.double (0 : UInt64)), .second, .val (.double (0 : UInt64)), .second] [])) (fun t k => XS.goto X91.here hx rfl (pc0 := 47) (pc' := 76) rfl (hb hby at_47) (by decide) (by decide) k) ?_
      refine own_st (fr' := (mkF m 78 #[.val (.int s1), .val (.int c1), .val (.int s2), .val (.int c2), .val (.ref u69), .val (.ref u81), .val (.ref b87), .val (.double (0 : UInt64)), .second, .val (.double (0 : UInt64)), .second] [(.double (0 : UInt64))])) (fun t k => XS.dload X91.here hx rfl (hb hby at_76) rfl  k) ?_
      refine own_st (fr' := (mkF m 80 #[.val (.int s1), .val (.int c1), .val (.int s2), .val (.int c2), .val (.ref u69), .val (.ref u81), .val (.ref b87), .val (.double (0 : UInt64)), .second, .val (.double (0 : UInt64)), .second] [(.double (0 : UInt64)), (.double (0 : UInt64))])) (fun t k => XS.dload X91.here hx rfl (hb hby at_78) rfl  k) ?_
      refine own_st (fr' := (mkF m 81 #[.val (.int s1), .val (.int c1), .val (.int s2), .val (.int c2), .val (.ref u69), .val (.ref u81), .val (.ref b87), .val (.double (0 : UInt64)), .second, .val (.double (0 : UInt64)), .second] [(.int (0 : Int32))])) (fun t k => XS.dcmpS X91.here hx rfl (hb hby at_80) rfl (by decide +kernel) k) ?_
      refine own_st (fr' := (mkF m 84 #[.val (.int s1), .val (.int c1), .val (.int s2), .val (.int c2), .val (.ref u69), .val (.ref u81), .val (.ref b87), .val (.double (0 : UInt64)), .second, .val (.double (0 : UInt64)), .second] [])) (fun t k => XS.ifNo X91.here hx rfl (hb hby at_81) rfl ((if0 _ _).trans (own_teq (x := (0 : Int32)) (y := (0 : Int32)) (show 0 = 0 from rfl)).2) k) ?_
      refine own_st (fr' := (mkF m 85 #[.val (.int s1), .val (.int c1), .val (.int s2), .val (.int c2), .val (.ref u69), .val (.ref u81), .val (.ref b87), .val (.double (0 : UInt64)), .second, .val (.double (0 : UInt64)), .second] [(.int (1 : Int32))])) (fun t k => XS.iconst X91.here hx rfl (hb hby at_84) k) ?_
      refine own_st (fr' := (mkF m 89 #[.val (.int s1), .val (.int c1), .val (.int s2), .val (.int c2), .val (.ref u69), .val (.ref u81), .val (.ref b87), .val (.double (0 : UInt64)), .second, .val (.double (0 : UInt64)), .second] [(.int (1 : Int32))])) (fun t k => XS.goto X91.here hx rfl (pc0 := 85) (pc' := 89) rfl (hb hby at_85) (by decide) (by decide) k) ?_
      exact own_retC X91 hx hlk hZ hS (Nat.le_trans (Nat.le_trans (Nat.le_refl _) E87.1) K89.1) (own_ew hw) r90 eq91 hret (rfl) (Or.inl ⟨rfl, by simp [ret], _, rfl⟩) (hb hby at_89) (by decide) (by decide) (⟨rfl, N91⟩)
set_option maxRecDepth 65536 in
set_option maxHeartbeats 40000000 in
theorem comes_1 {Post : Tables → Env → Array Value → State → Outcome → State → Prop} (hpost : ∀ tb e args s v u, (limb_1_1.after args s (.returned v) u = true ∧ limb_1_2.after args s (.returned v) u = true ∧ True) → ReturnedEndW s (.returned v) u (Jvm.fieldLocs frame_1_writes args s ++ Jvm.arrayLocs frame_1_arrays args s ++ Jvm.staticLocs frame_1_statics s) 24 1152 → Post tb e args s (.returned v) u) :
    ArmFor flags0 classFile x code maxLocals ret World_1 tables_1 room_1 Calls_1 rest_1 Pre_1 Post := by
  intro l hfl _ _ p e ha hc hk s m args below hf hA hF happ hP
  obtain ⟨hcalls, hrest, hpre⟩ := hP
  obtain ⟨-, -, -, hnamed, -, -, -, hat⟩ := (Spec.applies_iff hf).mp happ
  obtain ⟨hg, hn⟩ := and_e (Cond.before_iff.mp (show (Jvm.Cond.and given_1 narrow_1).before args s = true from hpre))
  obtain ⟨hcount, ha0⟩ := and_e hg
  obtain ⟨hi0, ha1⟩ := and_e ha0
  obtain ⟨hi1, ha2⟩ := and_e ha1
  obtain ⟨hi2, ha3⟩ := and_e ha2
  have hi3 := ha3
  obtain ⟨w0, w1, w2, w3, rfl⟩ : ∃ w0 w1 w2 w3 : Value, args = #[w0, w1, w2, w3] := by
    have hs : args.size = 4 := by simpa [Cond.value, given_1] using hcount
    obtain ⟨L⟩ := args
    match L, hs with
    | [w0, w1, w2, w3], _ => exact ⟨w0, w1, w2, w3, rfl⟩
  have hw := fun d (hd : d ∈ tables_1) => atoms_spec (ws := Jvm.Cond.code x code maxLocals ret :: tables_1) hat d (List.mem_cons_of_mem _ hd)
  obtain ⟨hsets, hown0⟩ := atoms_of _ (rest_1_c_eq ▸ (show rest_1_c.before _ s = true from hrest))
  have hfit : Fit s := fun {y c} hc i hi => by
    obtain ⟨ha, rfl⟩ := Array.getElem?_eq_some_iff.mp hc
    have q := List.all_eq_true.mp ((Array.all_eq_true_iff_forall_mem.mp hF) _ (Array.getElem_mem ha)) i (List.mem_range.mpr hi)
    simpa [Array.getElem?_eq_getElem hi] using q
  obtain ⟨i0, ei0⟩ := is_v hi0
  obtain rfl : w0 = (.int i0) := Option.some.inj ei0
  obtain ⟨i1, ei1⟩ := is_v hi1
  obtain rfl : w1 = (.int i1) := Option.some.inj ei1
  obtain ⟨i2, ei2⟩ := is_v hi2
  obtain rfl : w2 = (.int i2) := Option.some.inj ei2
  obtain ⟨i3, ei3⟩ := is_v hi3
  obtain rfl : w3 = (.int i3) := Option.some.inj ei3
  obtain ⟨cz, ecz⟩ := is_v (Cond.before_iff.mp (hsets _ (List.mem_of_getElem? (i := 1) rfl)))
  have S_cs := Sta.start ecz (Or.inl (hsets _ (List.mem_of_getElem? (i := 0) rfl)))
  have hcz : ¬ cz.toInt = 0 := fun q => by
    have h2 := Cond.before_iff.mp (hsets _ (List.mem_of_getElem? (i := 2) rfl))
    have q0 : cz = 0 := Int32.toInt_inj.mp q
    subst q0
    simp only [Cond.value] at h2
    rw [ecz] at h2
    simp [Term.eval] at h2
  have hCH : CHv s own_EL s.vm s.heap := CHv.start (own_ew hw) (fun p hp => hcalls.1 p hp) (hsets _ (List.mem_of_getElem? (i := 2) rfl)) (hw _ (List.mem_of_getElem? (i := 23) rfl)) (hw _ (List.mem_of_getElem? (i := 6) rfl))
  obtain ⟨n, o, h1, h2, h3, _, L, rfl, ⟨rfl, N⟩, -, hq⟩ := rm_law l s _ hw tables_1 i0 i1 i2 i3 cz s.heap s.heap.size (Nat.le_refl _) S_cs hcz p e ha hc hk s m _ below hf ((Spec.applies_iff_loose hf).mp happ).1 ⟨rfl, State.Warmed39.refl s, rfl, hCH⟩ trivial
  refine ⟨n, _, h1, h2, h3, hpost _ _ _ _ _ _ ⟨Cond.after_iff.mpr rfl, Cond.after_iff.mpr (eq_i res_at (Term.int_eval (1)) rfl), trivial⟩ ⟨hq.1, hq.2.1, hq.2.2.1, (hq.2.2.2.sift fun y hy => Or.inr (N y hy)).mono (by decide) (by decide)⟩⟩
theorem main_1_1 : Claimed_1_1 := comes_1 fun _ _ _ _ _ _ h hF => ⟨h.1, hF⟩
theorem main_1_2 : Claimed_1_2 := comes_1 fun _ _ _ _ _ _ h hF => ⟨h.2.1, hF⟩
end Jvm.Pilot.@@N@@
namespace Jvm.Pilot.@@N@@
open Jvm Jvm.ClassFile Sem Op Lib Jvm.Free Jvm.Stand Jvm.Pilot.@@N@@.Jvm.D
/-! MADE BY PROGRAM (witnessworld.py) out of the Statement's table words and the real class files: 21 classes; the members and pool entries that the words name. The judged class is class 1, her method 2. -/
namespace start1
open Jvm.ClassFile
def u (s : String) : CpInfo := .utf8 (stringToUtf16 s)
/-- a pool by its gaps: so many unusable entries, then the entry; so many at the end -/
def gap : Nat → List CpInfo → List CpInfo
  | 0, r => r
  | n + 1, r => .unusable :: gap n r
def poolList (es : List (Nat × CpInfo)) (last : Nat) : List CpInfo := es.foldr (fun e r => gap e.1 (e.2 :: r)) (gap last [])
def pool (es : List (Nat × CpInfo)) (last : Nat) : Array CpInfo := ⟨poolList es last⟩
def fileOf (pool : Array CpInfo) (this : Nat) (attrs : Array Attribute := #[]) (ms : Array MethodInfo := #[]) (fl : Nat := 33) (sup : Nat := 0) (ifs : Array Nat := #[]) (fds : Array FieldInfo := #[]) : ClassFile where
  minorVersion := 0
  majorVersion := 65
  constantPool := pool
  accessFlags := fl
  thisClass := this
  superClass := sup
  interfaces := ifs
  fields := fds
  methods := ms
  attributes := attrs
def plain (name : String) (sup : Option ClassId) : Class where
  name := name
  kind := .ordinary
  loader := none
  accessFlags := 33
  super := sup
  interfaces := #[]
  cf := none
  fields := #[]
  methods := #[]
  instanceTypes := #[]
  staticTypes := #[]
  resolved := #[]
  callSites := []
  init := .initialized
  statics := none
  mirror := none

def pool0 : Array CpInfo := pool [(5, u "<init>"), (0, u "()V"), (1, .class_ 10), (1, u "java/lang/Object")] 113

def k0c0 : Code := { maxStack := 0, maxLocals := 1, code := object_method_1_code, exceptionTable := #[], attributes := #[] }
def k0m0 : Method := { name := "<init>", desc := "()V", sig := { parameters := [], returnType := none }, accessFlags := 1, code := some k0c0 }
/-- java/lang/Object -/
def k0 : Class := { plain "java/lang/Object" none with
  accessFlags := 33
  interfaces := #[]
  cf := some (fileOf pool0 8 #[] #[{ accessFlags := 1, nameIndex := 5, descriptorIndex := 6, attributes := #[] }] 33 0 #[] #[])
  fields := #[]
  methods := #[k0m0]
  instanceTypes := #[]
  staticTypes := #[]
  resolved := Array.replicate 124 none
  statics := none }

def pool1 : Array CpInfo := pool [(2, .class_ 4), (1, u "java/lang/Object"), (0, u "<init>"), (0, u "()V"), (0, .class_ 8), (0, u "java/lang/String"), (0, .methodref 7 10), (0, .nameAndType 5 11), (0, u "([C)V"), (0, .methodref 13 14), (0, .class_ 15), (0, .nameAndType 16 17), (0, u "com/example/precedence/precedence/xslt/NameTestPriorityPinLaw"), (0, u "draw"), (0, u "(II)Ljava/lang/String;"), (0, .class_ 19), (0, u "com/example/precedence/precedence/xslt/WhitespaceStripping$NameTest"), (0, .methodref 18 21), (0, .nameAndType 5 22), (0, u "(Ljava/lang/String;Ljava/lang/String;)V"), (0, .methodref 18 24), (0, .nameAndType 25 26), (0, u "priority"), (0, u "()D"), (0, .double 13821547256400052224), (1, .double 13826050856027422720), (4, u "law"), (0, u "(IIII)Z")] 6

def k1m0 : Method := { name := "<init>", desc := "()V", sig := { parameters := [], returnType := none }, accessFlags := 2, code := none }
def k1c1 : Code := { maxStack := 5, maxLocals := 4, code := method_2_code, exceptionTable := #[], attributes := #[] }
def k1m1 : Method := { name := "draw", desc := "(II)Ljava/lang/String;", sig := { parameters := [.int, .int], returnType := some (.object "java/lang/String") }, accessFlags := 10, code := some k1c1 }
def k1c2 : Code := { maxStack := 4, maxLocals := 11, code := code, exceptionTable := #[], attributes := #[] }
def k1m2 : Method := { name := "law", desc := "(IIII)Z", sig := { parameters := [.int, .int, .int, .int], returnType := some .boolean }, accessFlags := 9, code := some k1c2 }
/-- com/example/precedence/precedence/xslt/NameTestPriorityPinLaw -/
def k1 : Class := { plain "com/example/precedence/precedence/xslt/NameTestPriorityPinLaw" (some 0) with
  accessFlags := 49
  interfaces := #[]
  cf := some (fileOf pool1 13 #[] #[{ accessFlags := 2, nameIndex := 5, descriptorIndex := 6, attributes := #[] }, { accessFlags := 10, nameIndex := 16, descriptorIndex := 17, attributes := #[] }, { accessFlags := 9, nameIndex := 34, descriptorIndex := 35, attributes := #[] }] 49 2 #[] #[])
  fields := #[]
  methods := #[k1m0, k1m1, k1m2]
  instanceTypes := #[]
  staticTypes := #[]
  resolved := Array.replicate 42 none
  statics := none }

def pool2 : Array CpInfo := pool [(1, .class_ 2), (0, u "java/io/Serializable"), (0, .class_ 4), (0, u "java/lang/Object")] 2

/-- java/io/Serializable -/
def k2 : Class := { plain "java/io/Serializable" (some 0) with
  accessFlags := 1537
  interfaces := #[]
  cf := some (fileOf pool2 1 #[] #[] 1537 3 #[] #[])
  fields := #[]
  methods := #[]
  instanceTypes := #[]
  staticTypes := #[]
  resolved := Array.replicate 7 none
  statics := none }

def pool3 : Array CpInfo := pool [(1, .class_ 2), (0, u "java/lang/Comparable"), (0, .class_ 4), (0, u "java/lang/Object")] 7

/-- java/lang/Comparable -/
def k3 : Class := { plain "java/lang/Comparable" (some 0) with
  accessFlags := 1537
  interfaces := #[]
  cf := some (fileOf pool3 1 #[] #[] 1537 3 #[] #[])
  fields := #[]
  methods := #[]
  instanceTypes := #[]
  staticTypes := #[]
  resolved := Array.replicate 12 none
  statics := none }

def pool4 : Array CpInfo := pool [(2, .class_ 4), (1, u "java/lang/CharSequence"), (42, .class_ 48), (0, u "java/lang/CharSequence$1CodePointIterator"), (10, .class_ 60), (0, u "java/lang/CharSequence$1CharIterator"), (5, .class_ 67), (0, u "java/lang/Object")] 63

/-- java/lang/CharSequence -/
def k4 : Class := { plain "java/lang/CharSequence" (some 0) with
  accessFlags := 1537
  interfaces := #[]
  cf := some (fileOf pool4 2 #[.nestMembers #[47, 59]] #[] 1537 66 #[] #[])
  fields := #[]
  methods := #[]
  instanceTypes := #[]
  staticTypes := #[]
  resolved := Array.replicate 131 none
  statics := none }

def pool5 : Array CpInfo := pool [(1, .class_ 2), (0, u "java/lang/constant/Constable"), (0, .class_ 4), (0, u "java/lang/Object")] 6

/-- java/lang/constant/Constable -/
def k5 : Class := { plain "java/lang/constant/Constable" (some 0) with
  accessFlags := 1537
  interfaces := #[]
  cf := some (fileOf pool5 1 #[] #[] 1537 3 #[] #[])
  fields := #[]
  methods := #[]
  instanceTypes := #[]
  staticTypes := #[]
  resolved := Array.replicate 11 none
  statics := none }

def pool6 : Array CpInfo := pool [(1, .class_ 2), (0, u "java/lang/constant/ConstantDesc"), (0, .class_ 4), (0, u "java/lang/Object")] 32

/-- java/lang/constant/ConstantDesc -/
def k6 : Class := { plain "java/lang/constant/ConstantDesc" (some 0) with
  accessFlags := 1537
  interfaces := #[]
  cf := some (fileOf pool6 1 #[] #[] 1537 3 #[] #[])
  fields := #[]
  methods := #[]
  instanceTypes := #[]
  staticTypes := #[]
  resolved := Array.replicate 37 none
  statics := none }

def pool7 : Array CpInfo := pool [(1, .methodref 2 3), (0, .class_ 4), (0, .nameAndType 5 6), (0, u "java/lang/Object"), (0, u "<init>"), (0, u "()V"), (0, .string 8), (0, u ""), (0, .fieldref 10 11), (0, .class_ 12), (0, .nameAndType 13 14), (0, u "java/lang/String"), (0, u "value"), (0, u "[B"), (0, .fieldref 10 16), (0, .nameAndType 17 18), (0, u "coder"), (0, u "B"), (2, u "hash"), (0, u "I"), (2, u "hashIsZero"), (0, u "Z"), (0, .methodref 10 28), (0, .nameAndType 5 29), (0, u "([CIILjava/lang/Void;)V"), (8, .fieldref 10 39), (0, .nameAndType 40 26), (0, u "COMPACT_STRINGS"), (1, .class_ 44), (1, u "java/lang/StringUTF16"), (0, u "compress"), (1, .methodref 42 48), (0, .nameAndType 49 50), (0, u "coderFromArrayLen"), (0, u "([BI)B"), (126, .methodref 42 178), (0, .nameAndType 45 179), (0, u "([CII)[B"), (395, .class_ 576), (0, u "java/lang/CharSequence"), (22, u "CASE_INSENSITIVE_ORDER"), (0, u "Ljava/util/Comparator;"), (409, u "([C)V"), (90, u "serialPersistentFields"), (0, u "[Ljava/io/ObjectStreamField;"), (0, .class_ 1104), (0, u "java/lang/String$CaseInsensitiveComparator"), (1, .class_ 1107), (0, u "java/io/Serializable"), (0, .class_ 1109), (0, u "java/lang/Comparable"), (0, .class_ 1111), (0, u "java/lang/constant/Constable"), (0, .class_ 1113), (0, u "java/lang/constant/ConstantDesc"), (2, u "serialVersionUID"), (0, u "J"), (3, u "REPL"), (0, u "C"), (2, u "LATIN1"), (1, u "UTF16")] 323

def k7m0 : Method := { name := "<init>", desc := "()V", sig := { parameters := [], returnType := none }, accessFlags := 1, code := none }
def k7c1 : Code := { maxStack := 5, maxLocals := 2, code := jdk_42_method_3_code, exceptionTable := #[], attributes := #[] }
def k7m1 : Method := { name := "<init>", desc := "([C)V", sig := { parameters := [(.array .char)], returnType := none }, accessFlags := 1, code := some k7c1 }
def k7c2 : Code := { maxStack := 4, maxLocals := 6, code := jdk_42_method_149_code, exceptionTable := #[], attributes := #[] }
def k7m2 : Method := { name := "<init>", desc := "([CIILjava/lang/Void;)V", sig := { parameters := [(.array .char), .int, .int, (.object "java/lang/Void")], returnType := none }, accessFlags := 2, code := some k7c2 }
/-- java/lang/String -/
def k7 : Class := { plain "java/lang/String" (some 0) with
  accessFlags := 49
  interfaces := #[2, 3, 4, 5, 6]
  cf := some (fileOf pool7 10 #[.nestMembers #[1103]] #[{ accessFlags := 1, nameIndex := 5, descriptorIndex := 6, attributes := #[] }, { accessFlags := 1, nameIndex := 5, descriptorIndex := 1010, attributes := #[] }, { accessFlags := 2, nameIndex := 5, descriptorIndex := 29, attributes := #[] }] 49 2 #[1106, 1108, 575, 1110, 1112] #[{ accessFlags := 18, nameIndex := 13, descriptorIndex := 14, attributes := #[] }, { accessFlags := 18, nameIndex := 17, descriptorIndex := 18, attributes := #[] }, { accessFlags := 2, nameIndex := 21, descriptorIndex := 22, attributes := #[] }, { accessFlags := 2, nameIndex := 25, descriptorIndex := 26, attributes := #[] }, { accessFlags := 26, nameIndex := 1116, descriptorIndex := 1117, attributes := #[] }, { accessFlags := 24, nameIndex := 40, descriptorIndex := 26, attributes := #[] }, { accessFlags := 26, nameIndex := 1101, descriptorIndex := 1102, attributes := #[] }, { accessFlags := 26, nameIndex := 1121, descriptorIndex := 1122, attributes := #[] }, { accessFlags := 25, nameIndex := 599, descriptorIndex := 600, attributes := #[] }, { accessFlags := 24, nameIndex := 1125, descriptorIndex := 18, attributes := #[] }, { accessFlags := 24, nameIndex := 1127, descriptorIndex := 18, attributes := #[] }])
  fields := #[{ name := "value", type := (.array .byte), accessFlags := 18, slot := 0, constantValue := 0 }, { name := "coder", type := .byte, accessFlags := 18, slot := 1, constantValue := 0 }, { name := "hash", type := .int, accessFlags := 2, slot := 2, constantValue := 0 }, { name := "hashIsZero", type := .boolean, accessFlags := 2, slot := 3, constantValue := 0 }, { name := "serialVersionUID", type := .long, accessFlags := 26, slot := 0, constantValue := 0 }, { name := "COMPACT_STRINGS", type := .boolean, accessFlags := 24, slot := 1, constantValue := 0 }, { name := "serialPersistentFields", type := (.array (.object "java/io/ObjectStreamField")), accessFlags := 26, slot := 2, constantValue := 0 }, { name := "REPL", type := .char, accessFlags := 26, slot := 3, constantValue := 0 }, { name := "CASE_INSENSITIVE_ORDER", type := (.object "java/util/Comparator"), accessFlags := 25, slot := 4, constantValue := 0 }, { name := "LATIN1", type := .byte, accessFlags := 24, slot := 5, constantValue := 0 }, { name := "UTF16", type := .byte, accessFlags := 24, slot := 6, constantValue := 0 }]
  methods := #[k7m0, k7m1, k7m2]
  instanceTypes := #[(.array .byte), .byte, .int, .boolean]
  staticTypes := #[.long, .boolean, (.array (.object "java/io/ObjectStreamField")), .char, (.object "java/util/Comparator"), .byte, .byte]
  resolved := Array.replicate 1451 none
  statics := some 0 }

def pool8 : Array CpInfo := pool [(6, .class_ 8), (1, u "java/lang/Object"), (0, u "<init>"), (0, u "()V"), (1, .class_ 14), (1, u "java/lang/StringUTF16"), (31, u "$assertionsDisabled"), (0, u "Z"), (13, u "HI_BYTE_SHIFT"), (0, u "I"), (2, u "LO_BYTE_SHIFT"), (49, .methodref 12 116), (0, .nameAndType 117 118), (0, u "compress"), (0, u "([CI[BII)I"), (3, u "([CII)[B"), (138, u "coderFromArrayLen"), (0, u "([BI)B"), (106, .class_ 371), (1, u "java/lang/StringUTF16$LinesSpliterator"), (58, u "MAX_LENGTH"), (196, .class_ 628), (0, u "java/lang/StringUTF16$CodePointsSpliterator"), (0, .class_ 630), (0, u "java/lang/StringUTF16$CharsSpliterator")] 4

def k8m0 : Method := { name := "<init>", desc := "()V", sig := { parameters := [], returnType := none }, accessFlags := 0, code := none }
def k8c1 : Code := { maxStack := 2, maxLocals := 2, code := jdk_52_method_15_code, exceptionTable := #[], attributes := #[] }
def k8m1 : Method := { name := "coderFromArrayLen", desc := "([BI)B", sig := { parameters := [(.array .byte), .int], returnType := some .byte }, accessFlags := 8, code := some k8c1 }
def k8c2 : Code := { maxStack := 5, maxLocals := 6, code := jdk_52_method_16_code, exceptionTable := #[], attributes := #[] }
def k8m2 : Method := { name := "compress", desc := "([CII)[B", sig := { parameters := [(.array .char), .int, .int], returnType := some (.array .byte) }, accessFlags := 9, code := some k8c2 }
def k8c3 : Code := { maxStack := 3, maxLocals := 7, code := jdk_52_method_21_code, exceptionTable := #[], attributes := #[] }
def k8m3 : Method := { name := "compress", desc := "([CI[BII)I", sig := { parameters := [(.array .char), .int, (.array .byte), .int, .int], returnType := some .int }, accessFlags := 9, code := some k8c3 }
/-- java/lang/StringUTF16 -/
def k8 : Class := { plain "java/lang/StringUTF16" (some 0) with
  accessFlags := 48
  interfaces := #[]
  cf := some (fileOf pool8 12 #[.nestMembers #[627, 629, 369]] #[{ accessFlags := 0, nameIndex := 9, descriptorIndex := 10, attributes := #[] }, { accessFlags := 8, nameIndex := 261, descriptorIndex := 262, attributes := #[] }, { accessFlags := 9, nameIndex := 117, descriptorIndex := 122, attributes := #[] }, { accessFlags := 9, nameIndex := 117, descriptorIndex := 118, attributes := #[] }] 48 6 #[] #[{ accessFlags := 26, nameIndex := 61, descriptorIndex := 62, attributes := #[] }, { accessFlags := 26, nameIndex := 65, descriptorIndex := 62, attributes := #[] }, { accessFlags := 24, nameIndex := 430, descriptorIndex := 62, attributes := #[] }, { accessFlags := 4120, nameIndex := 46, descriptorIndex := 47, attributes := #[] }])
  fields := #[{ name := "HI_BYTE_SHIFT", type := .int, accessFlags := 26, slot := 0, constantValue := 0 }, { name := "LO_BYTE_SHIFT", type := .int, accessFlags := 26, slot := 1, constantValue := 0 }, { name := "MAX_LENGTH", type := .int, accessFlags := 24, slot := 2, constantValue := 0 }, { name := "$assertionsDisabled", type := .boolean, accessFlags := 4120, slot := 3, constantValue := 0 }]
  methods := #[k8m0, k8m1, k8m2, k8m3]
  instanceTypes := #[]
  staticTypes := #[.int, .int, .int, .boolean]
  resolved := Array.replicate 635 none
  statics := none }

def pool9 : Array CpInfo := pool [(1, .methodref 2 3), (0, .class_ 4), (0, .nameAndType 5 6), (0, u "java/lang/Object"), (0, u "<init>"), (0, u "()V"), (0, .class_ 8), (0, u "java/lang/Record")] 13

def k9c0 : Code := { maxStack := 1, maxLocals := 1, code := jdk_30_method_1_code, exceptionTable := #[], attributes := #[] }
def k9m0 : Method := { name := "<init>", desc := "()V", sig := { parameters := [], returnType := none }, accessFlags := 4, code := some k9c0 }
/-- java/lang/Record -/
def k9 : Class := { plain "java/lang/Record" (some 0) with
  accessFlags := 1057
  interfaces := #[]
  cf := some (fileOf pool9 7 #[] #[{ accessFlags := 4, nameIndex := 5, descriptorIndex := 6, attributes := #[] }] 1057 2 #[] #[])
  fields := #[]
  methods := #[k9m0]
  instanceTypes := #[]
  staticTypes := #[]
  resolved := Array.replicate 22 none
  statics := none }

def pool10 : Array CpInfo := pool [(1, .methodref 2 3), (0, .class_ 4), (0, .nameAndType 5 6), (0, u "java/lang/Record"), (0, u "<init>"), (0, u "()V"), (0, .fieldref 8 9), (0, .class_ 10), (0, .nameAndType 11 12), (0, u "com/example/precedence/precedence/xslt/WhitespaceStripping$NameTest"), (0, u "namespaceUri"), (0, u "Ljava/lang/String;"), (0, .fieldref 8 14), (0, .nameAndType 15 12), (0, u "localName"), (15, .double 13821547256400052224), (1, .double 13826050856027422720), (12, u "(Ljava/lang/String;Ljava/lang/String;)V"), (6, u "priority"), (0, u "()D"), (4, .class_ 60), (0, u "com/example/precedence/precedence/xslt/WhitespaceStripping")] 20

def k10c0 : Code := { maxStack := 2, maxLocals := 3, code := prog_286_method_1_code, exceptionTable := #[], attributes := #[] }
def k10m0 : Method := { name := "<init>", desc := "(Ljava/lang/String;Ljava/lang/String;)V", sig := { parameters := [(.object "java/lang/String"), (.object "java/lang/String")], returnType := none }, accessFlags := 0, code := some k10c0 }
def k10c1 : Code := { maxStack := 2, maxLocals := 3, code := prog_286_method_3_code, exceptionTable := #[], attributes := #[] }
def k10m1 : Method := { name := "priority", desc := "()D", sig := { parameters := [], returnType := some .double }, accessFlags := 0, code := some k10c1 }
/-- com/example/precedence/precedence/xslt/WhitespaceStripping$NameTest -/
def k10 : Class := { plain "com/example/precedence/precedence/xslt/WhitespaceStripping$NameTest" (some 9) with
  accessFlags := 48
  interfaces := #[]
  cf := some (fileOf pool10 8 #[.nestHost 59] #[{ accessFlags := 0, nameIndex := 5, descriptorIndex := 46, attributes := #[] }, { accessFlags := 0, nameIndex := 53, descriptorIndex := 54, attributes := #[] }] 48 2 #[] #[{ accessFlags := 18, nameIndex := 11, descriptorIndex := 12, attributes := #[] }, { accessFlags := 18, nameIndex := 15, descriptorIndex := 12, attributes := #[] }])
  fields := #[{ name := "namespaceUri", type := (.object "java/lang/String"), accessFlags := 18, slot := 0, constantValue := 0 }, { name := "localName", type := (.object "java/lang/String"), accessFlags := 18, slot := 1, constantValue := 0 }]
  methods := #[k10m0, k10m1]
  instanceTypes := #[(.object "java/lang/String"), (.object "java/lang/String")]
  staticTypes := #[]
  resolved := Array.replicate 81 none
  statics := none }

def pool11 : Array CpInfo := pool [(4, .class_ 6), (1, u "java/lang/Object"), (0, u "<init>"), (0, u "()V"), (5, .class_ 16), (1, u "java/lang/StringLatin1"), (104, u "$assertionsDisabled"), (0, u "Z"), (98, .class_ 223), (1, u "java/lang/StringLatin1$LinesSpliterator"), (166, .class_ 391), (0, u "java/lang/StringLatin1$CharsSpliterator")] 3

def k11m0 : Method := { name := "<init>", desc := "()V", sig := { parameters := [], returnType := none }, accessFlags := 0, code := none }
/-- java/lang/StringLatin1 -/
def k11 : Class := { plain "java/lang/StringLatin1" (some 0) with
  accessFlags := 48
  interfaces := #[]
  cf := some (fileOf pool11 14 #[.nestMembers #[390, 221]] #[{ accessFlags := 0, nameIndex := 7, descriptorIndex := 8, attributes := #[] }] 48 4 #[] #[{ accessFlags := 4120, nameIndex := 121, descriptorIndex := 122, attributes := #[] }])
  fields := #[{ name := "$assertionsDisabled", type := .boolean, accessFlags := 4120, slot := 0, constantValue := 0 }]
  methods := #[k11m0]
  instanceTypes := #[]
  staticTypes := #[.boolean]
  resolved := Array.replicate 395 none
  statics := none }

def pool12 : Array CpInfo := pool [(2, .class_ 4), (1, u "java/lang/Object"), (0, u "<init>"), (0, u "()V"), (17, .class_ 26), (1, u "jdk/internal/util/Preconditions"), (28, .class_ 56), (0, u "jdk/internal/util/Preconditions$4"), (57, .class_ 115), (0, u "jdk/internal/util/Preconditions$1"), (7, u "SIOOBE_FORMATTER"), (0, u "Ljava/util/function/BiFunction;"), (0, .class_ 126), (0, u "jdk/internal/util/Preconditions$2"), (3, u "AIOOBE_FORMATTER"), (0, .class_ 132), (0, u "jdk/internal/util/Preconditions$3"), (3, u "IOOBE_FORMATTER")] 57

def k12m0 : Method := { name := "<init>", desc := "()V", sig := { parameters := [], returnType := none }, accessFlags := 1, code := none }
/-- jdk/internal/util/Preconditions -/
def k12 : Class := { plain "jdk/internal/util/Preconditions" (some 0) with
  accessFlags := 33
  interfaces := #[]
  cf := some (fileOf pool12 24 #[.nestMembers #[55, 131, 125, 114]] #[{ accessFlags := 1, nameIndex := 5, descriptorIndex := 6, attributes := #[] }] 33 2 #[] #[{ accessFlags := 25, nameIndex := 123, descriptorIndex := 124, attributes := #[] }, { accessFlags := 25, nameIndex := 130, descriptorIndex := 124, attributes := #[] }, { accessFlags := 25, nameIndex := 136, descriptorIndex := 124, attributes := #[] }])
  fields := #[{ name := "SIOOBE_FORMATTER", type := (.object "java/util/function/BiFunction"), accessFlags := 25, slot := 0, constantValue := 0 }, { name := "AIOOBE_FORMATTER", type := (.object "java/util/function/BiFunction"), accessFlags := 25, slot := 1, constantValue := 0 }, { name := "IOOBE_FORMATTER", type := (.object "java/util/function/BiFunction"), accessFlags := 25, slot := 2, constantValue := 0 }]
  methods := #[k12m0]
  instanceTypes := #[]
  staticTypes := #[(.object "java/util/function/BiFunction"), (.object "java/util/function/BiFunction"), (.object "java/util/function/BiFunction")]
  resolved := Array.replicate 194 none
  statics := some 1 }

def pool13 : Array CpInfo := pool [(9, u "<init>"), (6, .class_ 18), (1, u "java/lang/Object"), (0, u "()V"), (1, .class_ 23), (1, u "jdk/internal/util/ArraysSupport"), (0, u "LOG2_ARRAY_LONG_INDEX_SCALE"), (0, u "I"), (2, u "U"), (0, u "Ljdk/internal/misc/Unsafe;"), (8, u "BIG_ENDIAN"), (0, u "Z"), (8, u "LOG2_BYTE_BIT_SIZE"), (4, u "LOG2_ARRAY_INT_INDEX_SCALE"), (54, u "JLA"), (0, u "Ljdk/internal/access/JavaLangAccess;"), (11, u "LOG2_ARRAY_BOOLEAN_INDEX_SCALE"), (9, u "LOG2_ARRAY_BYTE_INDEX_SCALE"), (5, u "LOG2_ARRAY_CHAR_INDEX_SCALE"), (5, u "LOG2_ARRAY_SHORT_INDEX_SCALE"), (18, u "LOG2_ARRAY_FLOAT_INDEX_SCALE"), (24, u "LOG2_ARRAY_DOUBLE_INDEX_SCALE"), (89, u "T_BOOLEAN"), (2, u "T_CHAR"), (1, u "T_FLOAT"), (1, u "T_DOUBLE"), (1, u "T_BYTE"), (1, u "T_SHORT"), (1, u "T_INT"), (1, u "T_LONG"), (1, u "SOFT_MAX_ARRAY_LENGTH")] 83

def k13m0 : Method := { name := "<init>", desc := "()V", sig := { parameters := [], returnType := none }, accessFlags := 2, code := none }
/-- jdk/internal/util/ArraysSupport -/
def k13 : Class := { plain "jdk/internal/util/ArraysSupport" (some 0) with
  accessFlags := 33
  interfaces := #[]
  cf := some (fileOf pool13 21 #[] #[{ accessFlags := 2, nameIndex := 9, descriptorIndex := 19, attributes := #[] }] 33 16 #[] #[{ accessFlags := 24, nameIndex := 28, descriptorIndex := 29, attributes := #[] }, { accessFlags := 26, nameIndex := 38, descriptorIndex := 39, attributes := #[] }, { accessFlags := 25, nameIndex := 121, descriptorIndex := 25, attributes := #[] }, { accessFlags := 25, nameIndex := 131, descriptorIndex := 25, attributes := #[] }, { accessFlags := 25, nameIndex := 137, descriptorIndex := 25, attributes := #[] }, { accessFlags := 25, nameIndex := 143, descriptorIndex := 25, attributes := #[] }, { accessFlags := 25, nameIndex := 53, descriptorIndex := 25, attributes := #[] }, { accessFlags := 25, nameIndex := 24, descriptorIndex := 25, attributes := #[] }, { accessFlags := 25, nameIndex := 162, descriptorIndex := 25, attributes := #[] }, { accessFlags := 25, nameIndex := 187, descriptorIndex := 25, attributes := #[] }, { accessFlags := 26, nameIndex := 48, descriptorIndex := 25, attributes := #[] }, { accessFlags := 25, nameIndex := 277, descriptorIndex := 25, attributes := #[] }, { accessFlags := 25, nameIndex := 280, descriptorIndex := 25, attributes := #[] }, { accessFlags := 25, nameIndex := 282, descriptorIndex := 25, attributes := #[] }, { accessFlags := 25, nameIndex := 284, descriptorIndex := 25, attributes := #[] }, { accessFlags := 25, nameIndex := 286, descriptorIndex := 25, attributes := #[] }, { accessFlags := 25, nameIndex := 288, descriptorIndex := 25, attributes := #[] }, { accessFlags := 25, nameIndex := 290, descriptorIndex := 25, attributes := #[] }, { accessFlags := 25, nameIndex := 292, descriptorIndex := 25, attributes := #[] }, { accessFlags := 26, nameIndex := 108, descriptorIndex := 109, attributes := #[] }, { accessFlags := 25, nameIndex := 294, descriptorIndex := 25, attributes := #[] }])
  fields := #[{ name := "U", type := (.object "jdk/internal/misc/Unsafe"), accessFlags := 24, slot := 0, constantValue := 0 }, { name := "BIG_ENDIAN", type := .boolean, accessFlags := 26, slot := 1, constantValue := 0 }, { name := "LOG2_ARRAY_BOOLEAN_INDEX_SCALE", type := .int, accessFlags := 25, slot := 2, constantValue := 0 }, { name := "LOG2_ARRAY_BYTE_INDEX_SCALE", type := .int, accessFlags := 25, slot := 3, constantValue := 0 }, { name := "LOG2_ARRAY_CHAR_INDEX_SCALE", type := .int, accessFlags := 25, slot := 4, constantValue := 0 }, { name := "LOG2_ARRAY_SHORT_INDEX_SCALE", type := .int, accessFlags := 25, slot := 5, constantValue := 0 }, { name := "LOG2_ARRAY_INT_INDEX_SCALE", type := .int, accessFlags := 25, slot := 6, constantValue := 0 }, { name := "LOG2_ARRAY_LONG_INDEX_SCALE", type := .int, accessFlags := 25, slot := 7, constantValue := 0 }, { name := "LOG2_ARRAY_FLOAT_INDEX_SCALE", type := .int, accessFlags := 25, slot := 8, constantValue := 0 }, { name := "LOG2_ARRAY_DOUBLE_INDEX_SCALE", type := .int, accessFlags := 25, slot := 9, constantValue := 0 }, { name := "LOG2_BYTE_BIT_SIZE", type := .int, accessFlags := 26, slot := 10, constantValue := 0 }, { name := "T_BOOLEAN", type := .int, accessFlags := 25, slot := 11, constantValue := 0 }, { name := "T_CHAR", type := .int, accessFlags := 25, slot := 12, constantValue := 0 }, { name := "T_FLOAT", type := .int, accessFlags := 25, slot := 13, constantValue := 0 }, { name := "T_DOUBLE", type := .int, accessFlags := 25, slot := 14, constantValue := 0 }, { name := "T_BYTE", type := .int, accessFlags := 25, slot := 15, constantValue := 0 }, { name := "T_SHORT", type := .int, accessFlags := 25, slot := 16, constantValue := 0 }, { name := "T_INT", type := .int, accessFlags := 25, slot := 17, constantValue := 0 }, { name := "T_LONG", type := .int, accessFlags := 25, slot := 18, constantValue := 0 }, { name := "JLA", type := (.object "jdk/internal/access/JavaLangAccess"), accessFlags := 26, slot := 19, constantValue := 0 }, { name := "SOFT_MAX_ARRAY_LENGTH", type := .int, accessFlags := 25, slot := 20, constantValue := 0 }]
  methods := #[k13m0]
  instanceTypes := #[]
  staticTypes := #[(.object "jdk/internal/misc/Unsafe"), .boolean, .int, .int, .int, .int, .int, .int, .int, .int, .int, .int, .int, .int, .int, .int, .int, .int, .int, (.object "jdk/internal/access/JavaLangAccess"), .int]
  resolved := Array.replicate 378 none
  statics := none }

def pool14 : Array CpInfo := pool [(1, u "java/lang/Cloneable"), (0, .class_ 1), (0, u "java/lang/Object"), (0, .class_ 3)] 3

/-- java/lang/Cloneable -/
def k14 : Class := { plain "java/lang/Cloneable" (some 0) with
  accessFlags := 1537
  interfaces := #[]
  cf := some (fileOf pool14 2 #[] #[] 1537 4 #[] #[])
  fields := #[]
  methods := #[]
  instanceTypes := #[]
  staticTypes := #[]
  resolved := Array.replicate 8 none
  statics := none }

/-- the primitive byte -/
def k15 : Class := { plain "byte" none with kind := .primitive 'B', accessFlags := 0x411 }
/-- [B -/
def k16 : Class := { plain "[B" (some 0) with kind := .array 15 .byte, interfaces := #[14, 2], accessFlags := 1041 }

/-- the primitive char -/
def k17 : Class := { plain "char" none with kind := .primitive 'C', accessFlags := 0x411 }
/-- [C -/
def k18 : Class := { plain "[C" (some 0) with kind := .array 17 .char, interfaces := #[14, 2], accessFlags := 1041 }

/-- the primitive int -/
def k19 : Class := { plain "int" none with kind := .primitive 'I', accessFlags := 0x411 }
/-- [I -/
def k20 : Class := { plain "[I" (some 0) with kind := .array 19 .int, interfaces := #[14, 2], accessFlags := 1041 }

def heap : Heap := #[{ cls := 7, slots := #[.long 0, .int 1, .null, .int 0, .null, .int 0, .int 0], vm := .statics 7 },
  { cls := 12, slots := #[.null, .null, .null], vm := .statics 12 }]
def classes : Array Class := #[k0, k1, k2, k3, k4, k5, k6, k7, k8, k9, k10, k11, k12, k13, k14, k15, k16, k17, k18, k19, k20]
def interned : List (Array UInt16 × Addr) := []
def slotsUsed : Nat := 10
def theMethod : MethodId := ⟨1, 2⟩
def args0 : Array Value := #[.int 0, .int 0, .int 0, .int 0]
def aboutOver (below : List Frame) : State where
  vm := { classes := classes, interned := interned.toArray }
  heap := heap
  slotsUsed := slotsUsed
  threads := #[{ frames := .invoking theMethod args0 :: below }]
def below0 : List Frame := [.native { method := ⟨0, 0⟩, args := #[] }]
def about1 : State := aboutOver below0
def p0 : Program := .bare "" "" ""
def e0 : Env := launch0.env 0 0 0
theorem w_frames : about1.frames = Frame.invoking theMethod args0 :: below0 := rfl
set_option maxRecDepth 65536 in
theorem w_args : argsFit about1.vm theMethod args0 = true := by decide +kernel
set_option maxRecDepth 65536 in
theorem w_heap : heapFits about1 = true := by decide +kernel
set_option maxRecDepth 65536 in
theorem w_runnable : about1.curStatus? = some .runnable := by decide +kernel
set_option maxRecDepth 65536 in
theorem w_alone : about1.alone = true := by decide +kernel
set_option maxRecDepth 65536 in
theorem w_named : about1.methodNamed? x = some theMethod := by decide +kernel
set_option maxRecDepth 65536 in
theorem w_hears : about1.hears theMethod below0 = true := by decide +kernel
set_option maxRecDepth 65536 in
theorem w_ripe : about1.ripe theMethod args0 below0 = true := by decide +kernel
theorem w_running : about1.status = .running := rfl
set_option maxRecDepth 65536 in
theorem w_room : about1.hasRoom e0.platform room_1 = true :=
  launch0.hasRoom_least _ room_1 (by decide +kernel) (by decide +kernel) (by decide +kernel) (by decide +kernel) (by decide +kernel) (by decide +kernel)
theorem allAtoms_all (ts : List Jvm.Cond) (a : Array Jvm.Value) (st : Jvm.State) : (allAtoms ts).before a st = ts.all (fun c => c.before a st) := by
  induction ts with
  | nil => rfl
  | cons c t ih =>
    show (Jvm.Cond.and c (allAtoms t)).before a st = _
    rw [Jvm.Cond.before_and, ih, List.all_cons]
def words1 : List Jvm.Cond := Jvm.Cond.code x code maxLocals ret :: tables_1
/-- a 'code' word, met by the world's own term for the bytes: nothing is compared byte by byte -/
theorem code_word {y : MethodName} {bytes : ByteArray} {mx : Nat} {rt : Option FieldType} {a : Array Value} {s : State} {m : MethodId} {meth : Method} {c : Code} (h1 : s.methodNamed? y = some m) (h2 : s.vm.method? m = some meth) (h3 : meth.code = some c) (h4 : c.code = bytes)
    (h5 : (c.maxLocals == mx && c.exceptionTable.isEmpty && decide (c.maxStack ≤ mostOperands) && decide (meth.sig.returnType = rt) && !meth.locks && decide (parseMethodDescriptor y.desc = some meth.sig)) = true) : (Jvm.Cond.code y bytes mx rt).before a s = true := by
  simp only [Bool.and_eq_true, beq_iff_eq, Bool.not_eq_true', decide_eq_true_eq] at h5
  obtain ⟨⟨⟨⟨⟨g1, g2⟩, g3⟩, g4⟩, g5⟩, g6⟩ := h5
  simp [Cond.before, Cond.holds, Cond.value, h1, h2, h3, h4, g1, g2, g3, g4, g5, g6]
def isCode : Jvm.Cond → Bool
  | .code _ _ _ _ => true
  | _ => false
theorem all_split {L : List Jvm.Cond} {P : Jvm.Cond → Bool} (h1 : L.all (fun c => isCode c || P c) = true) (h2 : ∀ c ∈ L.filter isCode, P c = true) : L.all P = true := by
  refine List.all_eq_true.mpr fun c hc => ?_
  have h := List.all_eq_true.mp h1 c hc
  rcases Bool.eq_false_or_eq_true (isCode c) with hi | hi
  · exact h2 c (List.mem_filter.mpr ⟨hc, hi⟩)
  · simpa [hi] using h
set_option maxRecDepth 65536 in
theorem w_c0 : (Jvm.Cond.code x code maxLocals ret).before args0 about1 = true := code_word (m := ⟨1, 2⟩) (meth := k1m2) (c := k1c2) (by decide +kernel) rfl rfl rfl (by decide +kernel)
set_option maxRecDepth 65536 in
theorem w_c1 : (Jvm.Cond.code ({ cls := "com/example/precedence/precedence/xslt/NameTestPriorityPinLaw", name := "draw", desc := "(II)Ljava/lang/String;" } : Jvm.MethodName) method_2_code (4 : Nat) (Option.some (Jvm.ClassFile.FieldType.object "java/lang/String"))).before args0 about1 = true := code_word (m := ⟨1, 1⟩) (meth := k1m1) (c := k1c1) (by decide +kernel) rfl rfl rfl (by decide +kernel)
set_option maxRecDepth 65536 in
theorem w_c2 : (Jvm.Cond.code ({ cls := "java/lang/String", name := "<init>", desc := "([C)V" } : Jvm.MethodName) jdk_42_method_3_code (2 : Nat) (Option.none : Option Jvm.ClassFile.FieldType)).before args0 about1 = true := code_word (m := ⟨7, 1⟩) (meth := k7m1) (c := k7c1) (by decide +kernel) rfl rfl rfl (by decide +kernel)
set_option maxRecDepth 65536 in
theorem w_c3 : (Jvm.Cond.code ({ cls := "java/lang/String", name := "<init>", desc := "([CIILjava/lang/Void;)V" } : Jvm.MethodName) jdk_42_method_149_code (6 : Nat) (Option.none : Option Jvm.ClassFile.FieldType)).before args0 about1 = true := code_word (m := ⟨7, 2⟩) (meth := k7m2) (c := k7c2) (by decide +kernel) rfl rfl rfl (by decide +kernel)
set_option maxRecDepth 65536 in
theorem w_c4 : (Jvm.Cond.code ({ cls := "java/lang/Object", name := "<init>", desc := "()V" } : Jvm.MethodName) object_method_1_code (1 : Nat) (Option.none : Option Jvm.ClassFile.FieldType)).before args0 about1 = true := code_word (m := ⟨0, 0⟩) (meth := k0m0) (c := k0c0) (by decide +kernel) rfl rfl rfl (by decide +kernel)
set_option maxRecDepth 65536 in
theorem w_c5 : (Jvm.Cond.code ({ cls := "java/lang/StringUTF16", name := "compress", desc := "([CII)[B" } : Jvm.MethodName) jdk_52_method_16_code (6 : Nat) (Option.some (Jvm.ClassFile.FieldType.array Jvm.ClassFile.FieldType.byte))).before args0 about1 = true := code_word (m := ⟨8, 2⟩) (meth := k8m2) (c := k8c2) (by decide +kernel) rfl rfl rfl (by decide +kernel)
set_option maxRecDepth 65536 in
theorem w_c6 : (Jvm.Cond.code ({ cls := "java/lang/StringUTF16", name := "compress", desc := "([CI[BII)I" } : Jvm.MethodName) jdk_52_method_21_code (7 : Nat) (Option.some Jvm.ClassFile.FieldType.int)).before args0 about1 = true := code_word (m := ⟨8, 3⟩) (meth := k8m3) (c := k8c3) (by decide +kernel) rfl rfl rfl (by decide +kernel)
set_option maxRecDepth 65536 in
theorem w_c7 : (Jvm.Cond.code ({ cls := "java/lang/StringUTF16", name := "coderFromArrayLen", desc := "([BI)B" } : Jvm.MethodName) jdk_52_method_15_code (2 : Nat) (Option.some Jvm.ClassFile.FieldType.byte)).before args0 about1 = true := code_word (m := ⟨8, 1⟩) (meth := k8m1) (c := k8c1) (by decide +kernel) rfl rfl rfl (by decide +kernel)
set_option maxRecDepth 65536 in
theorem w_c8 : (Jvm.Cond.code ({ cls := "com/example/precedence/precedence/xslt/WhitespaceStripping$NameTest", name := "<init>", desc := "(Ljava/lang/String;Ljava/lang/String;)V" } : Jvm.MethodName) prog_286_method_1_code (3 : Nat) (Option.none : Option Jvm.ClassFile.FieldType)).before args0 about1 = true := code_word (m := ⟨10, 0⟩) (meth := k10m0) (c := k10c0) (by decide +kernel) rfl rfl rfl (by decide +kernel)
set_option maxRecDepth 65536 in
theorem w_c9 : (Jvm.Cond.code ({ cls := "java/lang/Record", name := "<init>", desc := "()V" } : Jvm.MethodName) jdk_30_method_1_code (1 : Nat) (Option.none : Option Jvm.ClassFile.FieldType)).before args0 about1 = true := code_word (m := ⟨9, 0⟩) (meth := k9m0) (c := k9c0) (by decide +kernel) rfl rfl rfl (by decide +kernel)
set_option maxRecDepth 65536 in
theorem w_c10 : (Jvm.Cond.code ({ cls := "com/example/precedence/precedence/xslt/WhitespaceStripping$NameTest", name := "priority", desc := "()D" } : Jvm.MethodName) prog_286_method_3_code (3 : Nat) (Option.some Jvm.ClassFile.FieldType.double)).before args0 about1 = true := code_word (m := ⟨10, 1⟩) (meth := k10m1) (c := k10c1) (by decide +kernel) rfl rfl rfl (by decide +kernel)
def codes1 : List Jvm.Cond := [Jvm.Cond.code x code maxLocals ret, Jvm.Cond.code ({ cls := "com/example/precedence/precedence/xslt/NameTestPriorityPinLaw", name := "draw", desc := "(II)Ljava/lang/String;" } : Jvm.MethodName) method_2_code (4 : Nat) (Option.some (Jvm.ClassFile.FieldType.object "java/lang/String")), Jvm.Cond.code ({ cls := "java/lang/String", name := "<init>", desc := "([C)V" } : Jvm.MethodName) jdk_42_method_3_code (2 : Nat) (Option.none : Option Jvm.ClassFile.FieldType), Jvm.Cond.code ({ cls := "java/lang/String", name := "<init>", desc := "([CIILjava/lang/Void;)V" } : Jvm.MethodName) jdk_42_method_149_code (6 : Nat) (Option.none : Option Jvm.ClassFile.FieldType), Jvm.Cond.code ({ cls := "java/lang/Object", name := "<init>", desc := "()V" } : Jvm.MethodName) object_method_1_code (1 : Nat) (Option.none : Option Jvm.ClassFile.FieldType), Jvm.Cond.code ({ cls := "java/lang/StringUTF16", name := "compress", desc := "([CII)[B" } : Jvm.MethodName) jdk_52_method_16_code (6 : Nat) (Option.some (Jvm.ClassFile.FieldType.array Jvm.ClassFile.FieldType.byte)), Jvm.Cond.code ({ cls := "java/lang/StringUTF16", name := "compress", desc := "([CI[BII)I" } : Jvm.MethodName) jdk_52_method_21_code (7 : Nat) (Option.some Jvm.ClassFile.FieldType.int), Jvm.Cond.code ({ cls := "java/lang/StringUTF16", name := "coderFromArrayLen", desc := "([BI)B" } : Jvm.MethodName) jdk_52_method_15_code (2 : Nat) (Option.some Jvm.ClassFile.FieldType.byte), Jvm.Cond.code ({ cls := "com/example/precedence/precedence/xslt/WhitespaceStripping$NameTest", name := "<init>", desc := "(Ljava/lang/String;Ljava/lang/String;)V" } : Jvm.MethodName) prog_286_method_1_code (3 : Nat) (Option.none : Option Jvm.ClassFile.FieldType), Jvm.Cond.code ({ cls := "java/lang/Record", name := "<init>", desc := "()V" } : Jvm.MethodName) jdk_30_method_1_code (1 : Nat) (Option.none : Option Jvm.ClassFile.FieldType), Jvm.Cond.code ({ cls := "com/example/precedence/precedence/xslt/WhitespaceStripping$NameTest", name := "priority", desc := "()D" } : Jvm.MethodName) prog_286_method_3_code (3 : Nat) (Option.some Jvm.ClassFile.FieldType.double)]
set_option maxRecDepth 65536 in
theorem codes_eq : words1.filter isCode = codes1 := rfl
theorem w_codes : ∀ c ∈ words1.filter isCode, c.before args0 about1 = true := by
  rw [codes_eq]
  intro c hc
  simp only [codes1, List.mem_cons, List.not_mem_nil, or_false] at hc
  rcases hc with rfl | rfl | rfl | rfl | rfl | rfl | rfl | rfl | rfl | rfl | rfl
  · exact w_c0
  · exact w_c1
  · exact w_c2
  · exact w_c3
  · exact w_c4
  · exact w_c5
  · exact w_c6
  · exact w_c7
  · exact w_c8
  · exact w_c9
  · exact w_c10
set_option maxRecDepth 65536 in
theorem w_t1 : (words1.take 24).all (fun c => isCode c || c.before args0 about1) = true := by decide +kernel
set_option maxRecDepth 65536 in
theorem w_t2 : ((words1.drop 24).take 24).all (fun c => isCode c || c.before args0 about1) = true := by decide +kernel
set_option maxRecDepth 65536 in
theorem w_t3 : ((words1.drop 24).drop 24).all (fun c => isCode c || c.before args0 about1) = true := by decide +kernel
theorem w_tables : (allAtoms (Jvm.Cond.code x code maxLocals ret :: tables_1)).before args0 about1 = true := by
  rw [allAtoms_all]
  show words1.all (fun c => c.before args0 about1) = true
  refine all_split ?_ w_codes
  rw [← List.take_append_drop 24 words1, List.all_append, w_t1, ← List.take_append_drop 24 (words1.drop 24), List.all_append, w_t2, w_t3]
  rfl
set_option maxRecDepth 65536 in
theorem w_rest : rest_1_c.before args0 about1 = true := by decide +kernel
set_option maxRecDepth 65536 in
theorem w_case : (Jvm.Cond.and given_1 narrow_1).before args0 about1 = true := by decide +kernel
set_option maxRecDepth 65536 in
theorem w_consts : constsHeld consts_1 about1 := Jvm.Lit.constsHeldB_iff.mp (by decide +kernel)
theorem w_applies : (headSpec (Jvm.Cond.code x code maxLocals ret :: tables_1) room_1).applies x e0.platform about1 = true :=
  (Spec.applies_iff w_frames).mpr ⟨w_running, w_runnable, w_alone, w_named, w_hears, w_ripe, w_room, w_tables⟩
theorem atStart : AtStart classFile x code maxLocals ret World_1 tables_1 room_1 Calls_1 rest_1 Pre_1 launch0 p0 e0 about1 theMethod args0 below0 :=
  ⟨lists_1, trivial, launch0.admits_env _ _ _, launch0.least_env, fairChoices_fair.cas, fairChoices_fair.clock, w_frames, w_args, w_heap, w_applies, ⟨w_consts, trivial⟩, w_rest, w_case⟩
end start1
theorem witness_1 : WitnessClaimed_1 := ⟨start1.p0, start1.e0, start1.about1, start1.theMethod, start1.args0, start1.below0, start1.atStart⟩
end Jvm.Pilot.@@N@@
