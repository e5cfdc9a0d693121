import JvmDerived
import JvmDerived.Pilot.@@N@@Statement
import JvmDerived.Pilot.@@N@@Code
set_option linter.unusedVariables false
set_option linter.unusedSimpArgs false
namespace Jvm.Pilot.@@N@@
open Jvm Jvm.ClassFile Sem Op Lib Jvm.Free Jvm.Stand Jvm.LawKit Jvm.RoadKit Bundle Jvm.Pilot.@@N@@.Jvm.D
/-- from T with the frame fr on top the invocation ends; Q holds of what it returned, of the heap and of the written places; kc cells and ks slots at most are new -/
def own_K : Type := Outcome → State → List Loc → Nat → Nat → Prop
def own_K.plain (s : State) : own_K := fun o t L k n => FrameEnd s o t L k n
def own_K.cold (Z : State) (EL : List (String × Nat)) (s : State) : own_K := fun o t L k n => CHr Z EL s.vm s.heap t.vm t.heap ∧ ReturnedEndW s o t L k n
def Go (p : Program) (e : Env) (below : List Frame) (G : own_K) (kc ks : Nat) (Q : Option Value → Heap → List Loc → Prop) (T : State) (fr : JFrame) : Prop :=
  ∃ s₂ o, Steps p.tables e below (T.setTop fr) s₂ ∧ s₂.status = .running ∧ Ended s₂ below o ∧ ∃ v L, o = .returned v ∧ Q v s₂.heap L ∧ G o s₂ L kc ks
section OwnKit
variable {p : Program} {l : Launch} {e : Env} {R : Room} {s : State} {G : own_K} {m : MethodId} {args : Array Value} {below : List Frame} {meth : Method} {c : Code} {T T' : State} {locs : List Loc} {cells slots : Nat} {Z : State} {a0 : Array Value} {h : Heap} {kc ks : Nat} {Q : Option Value → Heap → List Loc → Prop}
theorem own_st {fr fr' : JFrame} (st : ∀ t, Steps p.tables e below (T'.setTop fr') t → Steps p.tables e below (T.setTop fr) t) (k : Go p e below G kc ks Q T' fr') : Go p e below G kc ks Q T fr := by
  obtain ⟨s₂, o, h1, h2⟩ := k
  exact ⟨s₂, o, st _ h1, h2⟩
theorem own_tr {fr fr' : JFrame} (st : Steps p.tables e below (T.setTop fr) (T'.setTop fr')) (k : Go p e below G kc ks Q T' fr') : Go p e below G kc ks Q T fr :=
  own_st (fun _ q => st.trans q) k
theorem own_met {y : MethodName} {bytes : ByteArray} {maxL : Nat} {ret : Option FieldType} {ws : List Jvm.Cond} {rm : Room} {as' : Array Value} {Ls : Array Slot} {h0 : Heap} (hn : plainFor y = true) (hef : ∀ m : MethodId, entryFrame m as' maxL = mkF m 0 Ls [])
    (body : ∀ (p : Program) (e : Env) (s : State) (m : MethodId) (below : List Frame) (meth : Method) (c : Code) (s₁ : State), p.tables.exec = Jvm.exec → c.code = bytes → c.maxLocals = maxL → meth.sig.returnType = ret → meth.locks = false → Z.Warmed39 s.vm → s.vm.findClass y.cls = some m.cls → meth.name = y.name →
      Stand p l e rm s m as' below meth c s₁ [] 0 0 → s₁.heap = h0 → s.heap = h0 → Go p e below (.plain s) rm.cells rm.slots Q s₁ (mkF m 0 Ls [])) :
    MetFree l y (head1 (Jvm.Cond.code y bytes maxL ret :: ws) rm) (fun a U => a = as' ∧ Z.Warmed39 U.vm ∧ U.heap = h0) (fun _ _ _ _ _ => True) (fun _ U o U' => ∃ v L, o = .returned v ∧ Q v U'.heap L ∧ FrameEnd U o U' L rm.cells rm.slots) := by
  refine MetFree.of_bodySF hn hisR ?_
  intro p e s m args below meth c s₁ Bd hml0 hP hK
  obtain ⟨rfl, hZ, hh⟩ := hP
  have hg := body p e s m below meth c s₁ Bd.exec Bd.bytes hml0 Bd.returns Bd.notSynchronized hZ (findClass_of_methodNamed Bd.named) (name_of_methodNamed Bd.named Bd.method).1 (Stand.of_body Bd) (by rw [← hh, Bd.state]; rfl) hh
  unfold Go at hg
  rw [← hef m] at hg
  exact hg
theorem own_ret (X : Stand p l e R s m args below meth c T locs cells slots) (hx : p.tables.exec = Jvm.exec) (hlk : meth.locks = false) {pc : Nat} {Ls : Array Slot} {w : Value} {t : FieldType} {i : Instr} {rest : List Value} (hret : meth.sig.returnType = some t) (hn : narrow t w = w)
    (hi : (i = .ireturn ∧ (t = .int ∨ t = .boolean ∨ t = .byte ∨ t = .char ∨ t = .short) ∧ ∃ z, w = .int z) ∨ (i = .lreturn ∧ t = .long ∧ ∃ z, w = .long z) ∨ (i = .dreturn ∧ t = .double ∧ ∃ z, w = .double z) ∨ (i = .freturn ∧ t = .float ∧ ∃ z, w = .float z) ∨ (i = .areturn ∧ t.isReference = true ∧ w.isRef = true))
    (hd : decode c.code pc = .ok (i, 1)) (hc : cells ≤ kc) (hs : slots ≤ ks) (hq : Q (some w) T.heap locs) : Go p e below (.plain s) kc ks Q T (mkF m pc Ls (w :: rest)) := by
  obtain ⟨fs, hr, hrun, hended, hW, hsame⟩ := X.leave (v := some w) (fun h => by rw [hret] at h; cases h) hlk
  exact ⟨_, _, retOut X hx hret hn hi hd hr, hrun, hended, _, _, rfl, hq, ⟨_, rfl⟩, hW, hsame.mono hc hs⟩
theorem own_retI (X : Stand p l e R s m args below meth c T locs cells slots) (hx : p.tables.exec = Jvm.exec) (hlk : meth.locks = false) {pc : Nat} {Ls : Array Slot} {z : Int32} {rest : List Value} (hret : meth.sig.returnType = some .int)
    (hd : decode c.code pc = .ok (.ireturn, 1)) (hc : cells ≤ kc) (hs : slots ≤ ks) (hq : Q (some (.int z)) T.heap locs) : Go p e below (.plain s) kc ks Q T (mkF m pc Ls (.int z :: rest)) :=
  own_ret X hx hlk hret rfl (Or.inl ⟨rfl, Or.inl rfl, _, rfl⟩) hd hc hs hq
theorem own_retJ (X : Stand p l e R s m args below meth c T locs cells slots) (hx : p.tables.exec = Jvm.exec) (hlk : meth.locks = false) {pc : Nat} {Ls : Array Slot} {z : Int64} {rest : List Value} (hret : meth.sig.returnType = some .long)
    (hd : decode c.code pc = .ok (.lreturn, 1)) (hc : cells ≤ kc) (hs : slots ≤ ks) (hq : Q (some (.long z)) T.heap locs) : Go p e below (.plain s) kc ks Q T (mkF m pc Ls (.long z :: rest)) :=
  own_ret X hx hlk hret rfl (Or.inr (Or.inl ⟨rfl, rfl, _, rfl⟩)) hd hc hs hq
theorem own_retA (X : Stand p l e R s m args below meth c T locs cells slots) (hx : p.tables.exec = Jvm.exec) (hlk : meth.locks = false) {pc : Nat} {Ls : Array Slot} {w : Value} {t : FieldType} {rest : List Value} (hret : meth.sig.returnType = some t) (ht : t.isReference = true) (hw : w.isRef = true)
    (hd : decode c.code pc = .ok (.areturn, 1)) (hc : cells ≤ kc) (hs : slots ≤ ks) (hq : Q (some w) T.heap locs) : Go p e below (.plain s) kc ks Q T (mkF m pc Ls (w :: rest)) :=
  own_ret X hx hlk hret (by cases w <;> simp [Value.isRef] at hw <;> cases t <;> simp [FieldType.isReference] at ht <;> rfl) (Or.inr (Or.inr (Or.inr (Or.inr ⟨rfl, ht, hw⟩)))) hd hc hs hq
theorem own_retV (X : Stand p l e R s m args below meth c T locs cells slots) (hx : p.tables.exec = Jvm.exec) (hlk : meth.locks = false) {pc : Nat} {Ls : Array Slot} (hret : meth.sig.returnType = none)
    (hd : decode c.code pc = .ok (.return_, 1)) (hc : cells ≤ kc) (hs : slots ≤ ks) (hq : Q none T.heap locs) : Go p e below (.plain s) kc ks Q T (mkF m pc Ls []) := by
  obtain ⟨fs, hr, hrun, hended, hW, hsame⟩ := X.leave (v := none) (fun _ => rfl) hlk
  exact ⟨_, _, X.returnOut hx hret hd hr, hrun, hended, _, _, rfl, hq, ⟨_, rfl⟩, hW, hsame.mono hc hs⟩
theorem own_bit {z : Int32} (h : z.toInt = 0 ∨ z.toInt = 1) : z = 0 ∨ z = 1 := by
  rcases h with h | h
  · exact Or.inl (Int32.toInt_inj.mp h)
  · exact Or.inr (Int32.toInt_inj.mp h)
theorem own_retZ (X : Stand p l e R s m args below meth c T locs cells slots) (hx : p.tables.exec = Jvm.exec) (hlk : meth.locks = false) {pc : Nat} {Ls : Array Slot} {z : Int32} {rest : List Value} (hret : meth.sig.returnType = some .boolean) (hz : z.toInt = 0 ∨ z.toInt = 1)
    (hd : decode c.code pc = .ok (.ireturn, 1)) (hc : cells ≤ kc) (hs : slots ≤ ks) (hq : Q (some (.int z)) T.heap locs) : Go p e below (.plain s) kc ks Q T (mkF m pc Ls (.int z :: rest)) :=
  own_ret X hx hlk hret (by rcases own_bit hz with rfl | rfl <;> rfl) (Or.inl ⟨rfl, Or.inr (Or.inl rfl), _, rfl⟩) hd hc hs hq
theorem own_one {z : Int32} (h : z.toInt = 1) : z = 1 := Int32.toInt_inj.mp h
/-- a static call by the callee's contract -/
theorem own_callS (X : Stand p l e R s m args below meth c T locs cells slots) (hx : p.tables.exec = Jvm.exec) (hZ : Z.Warmed39 s.vm) {own : String} {index : Nat} {y : MethodName} {bytes : ByteArray} {maxL : Nat} {ret : Option FieldType} (hown : s.vm.findClass own = some m.cls)
    (w1 : (Jvm.Cond.methodLink own index y).before a0 Z = true) (w2 : (Jvm.Cond.static y).before a0 Z = true) (w3 : (Jvm.Cond.initialized y.cls).before a0 Z = true) (w4 : (Jvm.Cond.code y bytes maxL ret).before a0 Z = true) (hy : y.cls ≠ "java/lang/invoke/MethodHandle" ∧ y.cls ≠ "java/lang/invoke/VarHandle")
    {rm : Room} {Q' : Option Value → Heap → List Loc → Prop} {argsL rest stk : List Value} {pc W : Nat} {Ls : Array Slot}
    (hM : MetFree l y (head1 [Jvm.Cond.code y bytes maxL ret] rm) (fun a U => a = argsL.toArray ∧ Z.Warmed39 U.vm ∧ U.heap = h) (fun _ _ _ _ _ => True) (fun _ U o U' => ∃ v L, o = .returned v ∧ Q' v U'.heap L ∧ FrameEnd U o U' L rm.cells rm.slots))
    (eT : T.heap = h) (hsize : Ls.size = c.maxLocals) (hlen : ∀ sig, parseMethodDescriptor y.desc = some sig → argsL.length = sig.parameters.length) (hst : stk = argsL.reverse ++ rest) (hW : (rest.map fun v => v.category).sum ≤ W) (hd : decode c.code pc = .ok (.invokestatic index, 3))
    (hf : rm.frames + 1 ≤ R.frames) (hl : W + (maxL + 11) + rm.locals ≤ R.locals) (hc : cells + rm.cells ≤ R.cells) (hs : slots + rm.slots ≤ R.slots)
    (k : ∀ (v : Option Value) (T' : State) (L : List Loc), Stand p l e R s m args below meth c T' (locs ++ L) (cells + rm.cells) (slots + rm.slots) → Q' v T'.heap L → Go p e below G kc ks Q T' (mkF m (pc + 3) Ls (v.toList ++ rest))) :
    Go p e below G kc ks Q T (mkF m pc Ls stk) := by
  subst hst
  obtain ⟨v, _, ⟨T1, L1, k1, n1⟩, -, X1, ⟨Lc, hQ, l1, y1, z1⟩, st⟩ := Jvm.LawKit.callS X hx (y := y) hown (mvT hZ w1) (mvT hZ w2) (mvT hZ w3) (mvT hZ w4) hy (backOf (W := W) hM hZ w4 w3 hf hl) (g := mkF m pc Ls (argsL.reverse ++ rest)) rfl hsize (argsL := argsL) (rest := rest) hlen rfl (by show 2 * 0 + _ ≤ _; omega) hd (fun _ _ => ⟨rfl, eT, hc, hs⟩)
  dsimp only [Pt.U, Pt.locs, Pt.cells, Pt.slots] at X1 l1 y1 z1 st hQ
  subst l1 y1 z1
  exact own_st st (k v T1 Lc X1 hQ)
/-- a constructor by its contract -/
theorem own_callN (X : Stand p l e R s m args below meth c T locs cells slots) (hx : p.tables.exec = Jvm.exec) (hZ : Z.Warmed39 s.vm) {own : String} {index : Nat} {y : MethodName} {bytes : ByteArray} {maxL : Nat} (hown : s.vm.findClass own = some m.cls) (hy1 : y.name = "<init>")
    (w1 : (Jvm.Cond.methodLink own index y).before a0 Z = true) (w2 : (Jvm.Cond.instanceMethod y).before a0 Z = true) (w3 : (Jvm.Cond.initialized y.cls).before a0 Z = true) (w4 : (Jvm.Cond.code y bytes maxL none).before a0 Z = true) (hy : y.cls ≠ "java/lang/invoke/MethodHandle" ∧ y.cls ≠ "java/lang/invoke/VarHandle")
    {rm : Room} {Q' : Option Value → Heap → List Loc → Prop} {a : Addr} {argsL rest stk : List Value} {pc W : Nat} {Ls : Array Slot}
    (hM : MetFree l y (head1 [Jvm.Cond.code y bytes maxL none] rm) (fun a' U => a' = (.ref a :: argsL).toArray ∧ Z.Warmed39 U.vm ∧ U.heap = h) (fun _ _ _ _ _ => True) (fun _ U o U' => ∃ v L, o = .returned v ∧ Q' v U'.heap L ∧ FrameEnd U o U' L rm.cells rm.slots))
    (eT : T.heap = h) (hsize : Ls.size = c.maxLocals) (hlen : ∀ sig, parseMethodDescriptor y.desc = some sig → argsL.length = sig.parameters.length) (hst : stk = argsL.reverse ++ .ref a :: rest) (hW : (rest.map fun v => v.category).sum ≤ W) (hd : decode c.code pc = .ok (.invokespecial index, 3))
    (hf : rm.frames + 1 ≤ R.frames) (hl : W + (maxL + 11) + rm.locals ≤ R.locals) (hc : cells + rm.cells ≤ R.cells) (hs : slots + rm.slots ≤ R.slots)
    (k : ∀ (v : Option Value) (T' : State) (L : List Loc), Stand p l e R s m args below meth c T' (locs ++ L) (cells + rm.cells) (slots + rm.slots) → Q' v T'.heap L → Go p e below G kc ks Q T' (mkF m (pc + 3) Ls (v.toList ++ rest))) :
    Go p e below G kc ks Q T (mkF m pc Ls stk) := by
  subst hst
  obtain ⟨v, _, ⟨T1, L1, k1, n1⟩, -, X1, ⟨Lc, hQ, l1, y1, z1⟩, st⟩ := X.specialBack hx (y := y) hy1 hown (mvT hZ w1) (mvT hZ w2) (mvT hZ w4) hy (backOf (W := W) hM hZ w4 w3 hf hl) (g := mkF m pc Ls (argsL.reverse ++ .ref a :: rest)) rfl hsize (Steps.refl _) (a := a) (argsL := argsL) (rest := rest) hlen rfl (by show 2 * 0 + _ ≤ _; omega) hd (fun _ _ => ⟨rfl, eT, hc, hs⟩)
  dsimp only [Pt.U, Pt.locs, Pt.cells, Pt.slots] at X1 l1 y1 z1 st hQ
  subst l1 y1 z1
  exact own_tr st (k v T1 Lc X1 hQ)
/-- an instance method by the contract of the body that the receiver's class selects -/
theorem own_callV (X : Stand p l e R s m args below meth c T locs cells slots) (hx : p.tables.exec = Jvm.exec) (hZ : Z.Warmed39 s.vm) {own C : String} {index : Nat} {y z : MethodName} {bytes : ByteArray} {maxL : Nat} {ret : Option FieldType} (hown : s.vm.findClass own = some m.cls)
    (w1 : (Jvm.Cond.methodLink own index y).before a0 Z = true) (w2 : (Jvm.Cond.declares y).before a0 Z = true) (hnf : NotFace s y) (w3 : (Jvm.Cond.selects C y z).before a0 Z = true) (w4 : (Jvm.Cond.instanceMethod z).before a0 Z = true) (w5 : (Jvm.Cond.initialized z.cls).before a0 Z = true) (w6 : (Jvm.Cond.code z bytes maxL ret).before a0 Z = true) (hy : y.cls ≠ "java/lang/invoke/MethodHandle" ∧ y.cls ≠ "java/lang/invoke/VarHandle")
    {rm : Room} {Q' : Option Value → Heap → List Loc → Prop} {a : Addr} {argsL rest stk : List Value} {pc W : Nat} {Ls : Array Slot}
    (hM : MetFree l z (head1 [Jvm.Cond.code z bytes maxL ret] rm) (fun a' U => a' = (.ref a :: argsL).toArray ∧ Z.Warmed39 U.vm ∧ U.heap = h) (fun _ _ _ _ _ => True) (fun _ U o U' => ∃ v L, o = .returned v ∧ Q' v U'.heap L ∧ FrameEnd U o U' L rm.cells rm.slots))
    (eT : T.heap = h) (E : Exa Z h a C) (hsize : Ls.size = c.maxLocals) (hlen : ∀ sig, parseMethodDescriptor y.desc = some sig → argsL.length = sig.parameters.length) (hst : stk = argsL.reverse ++ .ref a :: rest) (hW : (rest.map fun v => v.category).sum ≤ W) (hd : decode c.code pc = .ok (.invokevirtual index, 3))
    (hf : rm.frames + 1 ≤ R.frames) (hl : W + (maxL + 11) + rm.locals ≤ R.locals) (hc : cells + rm.cells ≤ R.cells) (hs : slots + rm.slots ≤ R.slots)
    (k : ∀ (v : Option Value) (T' : State) (L : List Loc), Stand p l e R s m args below meth c T' (locs ++ L) (cells + rm.cells) (slots + rm.slots) → Q' v T'.heap L → Go p e below G kc ks Q T' (mkF m (pc + 3) Ls (v.toList ++ rest))) :
    Go p e below G kc ks Q T (mkF m pc Ls stk) := by
  subst hst
  obtain ⟨cq, kq, qa, qb, qc⟩ := isOf hZ eT E
  obtain ⟨v, _, ⟨T1, L1, k1, n1⟩, -, X1, ⟨Lc, hQ, l1, y1, z1⟩, st⟩ := X.virtualBack hx (y := y) (z := z) hown (mvT hZ w1) (mvT hZ w2) hnf (mvT hZ w3) (mvT hZ w4) hy (backOf (W := W) hM hZ w6 w5 hf hl) qa qc (g := mkF m pc Ls (argsL.reverse ++ .ref a :: rest)) rfl hsize (Steps.refl _) (argsL := argsL) (rest := rest) hlen rfl (by show 2 * 0 + _ ≤ _; omega) hd (fun _ _ => ⟨rfl, eT, hc, hs⟩)
  dsimp only [Pt.U, Pt.locs, Pt.cells, Pt.slots] at X1 l1 y1 z1 st hQ
  subst l1 y1 z1
  exact own_tr st (k v T1 Lc X1 hQ)
/-- the branches, by the integers' worth -/
theorem own_tlt {x y : Int32} (h : x.toInt < y.toInt) : if_icmp.holds .lt x y = true ∧ if_icmp.holds .ge x y = false ∧ if_icmp.holds .gt y x = true ∧ if_icmp.holds .le y x = false := tlt (Int32.lt_iff_toInt_lt.mpr h)
theorem own_flt {x y : Int32} (h : ¬ x.toInt < y.toInt) : if_icmp.holds .lt x y = false ∧ if_icmp.holds .ge x y = true ∧ if_icmp.holds .gt y x = false ∧ if_icmp.holds .le y x = true := flt fun q => h (Int32.lt_iff_toInt_lt.mp q)
theorem own_teq {x y : Int32} (h : x.toInt = y.toInt) : if_icmp.holds .eq x y = true ∧ if_icmp.holds .ne x y = false := teq (Int32.toInt_inj.mp h)
theorem own_feq {x y : Int32} (h : ¬ x.toInt = y.toInt) : if_icmp.holds .eq x y = false ∧ if_icmp.holds .ne x y = true := feq fun q => h (congrArg _ q)
theorem own_tltL {x y : Int64} (h : x.toInt < y.toInt) : ifCond.holds .lt (lcmpW x y) = true ∧ ifCond.holds .ge (lcmpW x y) = false := by
  have q := tlt ((lw_lt x y).mpr (Int64.lt_iff_toInt_lt.mpr h))
  exact ⟨(if0 _ _).trans q.1, (if0 _ _).trans q.2.1⟩
theorem own_fltL {x y : Int64} (h : ¬ x.toInt < y.toInt) : ifCond.holds .lt (lcmpW x y) = false ∧ ifCond.holds .ge (lcmpW x y) = true := by
  have q := flt fun r => h (Int64.lt_iff_toInt_lt.mp ((lw_lt x y).mp r))
  exact ⟨(if0 _ _).trans q.1, (if0 _ _).trans q.2.1⟩
theorem own_tgtL {x y : Int64} (h : y.toInt < x.toInt) : ifCond.holds .gt (lcmpW x y) = true ∧ ifCond.holds .le (lcmpW x y) = false := by
  have q := tlt ((lw_gt x y).mpr (Int64.lt_iff_toInt_lt.mpr h))
  exact ⟨(if0 _ _).trans q.2.2.1, (if0 _ _).trans q.2.2.2⟩
theorem own_fgtL {x y : Int64} (h : ¬ y.toInt < x.toInt) : ifCond.holds .gt (lcmpW x y) = false ∧ ifCond.holds .le (lcmpW x y) = true := by
  have q := flt fun r => h (Int64.lt_iff_toInt_lt.mp ((lw_gt x y).mp r))
  exact ⟨(if0 _ _).trans q.2.2.1, (if0 _ _).trans q.2.2.2⟩
theorem own_teqL {x y : Int64} (h : x.toInt = y.toInt) : ifCond.holds .eq (lcmpW x y) = true ∧ ifCond.holds .ne (lcmpW x y) = false := by
  have q := teq ((lw_eq x y).mpr (Int64.toInt_inj.mp h))
  exact ⟨(if0 _ _).trans q.1, (if0 _ _).trans q.2⟩
theorem own_feqL {x y : Int64} (h : ¬ x.toInt = y.toInt) : ifCond.holds .eq (lcmpW x y) = false ∧ ifCond.holds .ne (lcmpW x y) = true := by
  have q := feq fun r => h (congrArg _ ((lw_eq x y).mp r))
  exact ⟨(if0 _ _).trans q.1, (if0 _ _).trans q.2⟩
/-- an array by its length and what each place holds -/
def own_A (Z : State) (h : Heap) (a : Addr) (ty : FieldType) (n : Int32) (f : Nat → Value) : Prop := ∃ cl : Cell, Arr Z h a cl ty ∧ cl.slots.size = n.toNatClampNeg ∧ 0 ≤ n.toInt ∧ (∀ i, i < cl.slots.size → cl.slots[i]? = some (f i)) ∧ ∀ i, i < cl.slots.size → fits ty (f i) = true
theorem own_cl {n : Int32} : n.toNatClampNeg = n.toInt.toNat := rfl
theorem own_nneg {n : Int32} (h : 0 ≤ n.toInt) : ¬ n < 0 := fun q => by
  have q := Int32.lt_iff_toInt_lt.mp q
  have : (0 : Int32).toInt = 0 := rfl
  omega
theorem own_in {cl : Cell} {n j : Int32} (hs : cl.slots.size = n.toNatClampNeg) (h0 : 0 ≤ j.toInt) (h1 : j.toInt < n.toInt) : ¬ (j < 0 ∨ cl.slots.size ≤ j.toNatClampNeg) := by
  rintro (q | q)
  · exact own_nneg h0 q
  · rw [hs, own_cl, own_cl] at q; omega
theorem own_ilt {cl : Cell} {n j : Int32} (hs : cl.slots.size = n.toNatClampNeg) (h0 : 0 ≤ j.toInt) (h1 : j.toInt < n.toInt) : j.toInt.toNat < cl.slots.size := by rw [hs, own_cl]; omega
section OwnArr
variable {h h' : Heap} {a b : Addr} {ty : FieldType} {n : Int32} {f g : Nat → Value} {sl : Nat} {v : Value} {ws : List Addr}
theorem own_A.lt (F : own_A Z h a ty n f) : a < h.size := by obtain ⟨c, A, -⟩ := F; exact A.lt
theorem own_A.ext (F : own_A Z h a ty n f) (E : Ext h h') : own_A Z h' a ty n f := by obtain ⟨c, A, r⟩ := F; exact ⟨c, A.ext E, r⟩
theorem own_A.other (F : own_A Z h b ty n f) (W : Wr h h' a sl v) (q : b ≠ a) : own_A Z h' b ty n f := by obtain ⟨c, A, r⟩ := F; exact ⟨c, A.other W q, r⟩
theorem own_A.keep (F : own_A Z h a ty n f) (K : Keep h h' ws) (q : a ∉ ws) : own_A Z h' a ty n f := by obtain ⟨c, A, r⟩ := F; exact ⟨c, ⟨K.2.1 a c A.1 q, A.2⟩, r⟩
theorem own_A.congr (F : own_A Z h a ty n f) (q : ∀ i : Nat, (i : Int) < n.toInt → f i = g i) : own_A Z h a ty n g := by
  obtain ⟨c, A, hs, h0, H, G⟩ := F
  have t : ∀ i, i < c.slots.size → f i = g i := fun i hi => q i (by rw [hs, own_cl] at hi; omega)
  exact ⟨c, A, hs, h0, fun i hi => by rw [← t i hi]; exact H i hi, fun i hi => by rw [← t i hi]; exact G i hi⟩
theorem own_A.new {k : ClassId} (A : Arr Z h a (newA k ty n) ty) (q : 0 ≤ n.toInt) (hd : fits ty (defaultValue ty) = true) : own_A Z h a ty n (fun _ => defaultValue ty) :=
  ⟨_, A, sz_new _ _ _, q, fun i hi => by
    rw [sz_new] at hi
    simp [newA, hi], fun _ _ => hd⟩
theorem own_A.setN {cl : Cell} (A : Arr Z h a cl ty) (hs : cl.slots.size = n.toNatClampNeg) (h0 : 0 ≤ n.toInt) (H : ∀ i, i < cl.slots.size → cl.slots[i]? = some (f i)) (G : ∀ i, i < cl.slots.size → fits ty (f i) = true) (hv : fits ty v = true) {j : Nat} (W : Wr h h' a j v) (hj : j < cl.slots.size) :
    own_A Z h' a ty n (fun i => if i = j then v else f i) := by
  refine ⟨_, A.same W, by rw [sz_set]; exact hs, h0, fun i hi => ?_, fun i hi => ?_⟩
  · rw [sz_set] at hi
    by_cases e : i = j
    · subst e; simp [Cell.setSlot, hj]
    · have : j ≠ i := fun q => e q.symm
      simp [Cell.setSlot, e, this, H i hi]
  · rw [sz_set] at hi
    by_cases e : i = j
    · simp [e, hv]
    · simp [e, G i hi]
theorem own_A.set {cl : Cell} (A : Arr Z h a cl ty) (hs : cl.slots.size = n.toNatClampNeg) (h0 : 0 ≤ n.toInt) (H : ∀ i, i < cl.slots.size → cl.slots[i]? = some (f i)) (G : ∀ i, i < cl.slots.size → fits ty (f i) = true) (hv : fits ty v = true) {j : Int32} (W : Wr h h' a j.toNatClampNeg v) (hj : j.toInt.toNat < cl.slots.size) :
    own_A Z h' a ty n (fun i => if i = j.toInt.toNat then v else f i) := own_A.setN A hs h0 H G hv (j := j.toInt.toNat) W hj
end OwnArr
theorem own_A.int {h : Heap} {a : Addr} {n j : Int32} {f : Nat → Value} (F : own_A Z h a .int n f) (h0 : 0 ≤ j.toInt) (h1 : j.toInt < n.toInt) : ∃ z : Int32, f j.toInt.toNat = .int z := by
  obtain ⟨c, A, hs, hn, H, G⟩ := F
  exact fit_I (G _ (own_ilt hs h0 h1)) (Or.inl rfl)
theorem own_newarr (X : Stand p l e R s m args below meth c T locs cells slots) (hx : p.tables.exec = Jvm.exec) (hZ : Z.Warmed39 s.vm) {aty : ArrayType} (w : (Jvm.Cond.arrayClass (newarray.typeOf aty)).before a0 Z = true) (eT : T.heap = h) {pc : Nat} {Ls : Array Slot} (hd : decode c.code pc = .ok (.newarray aty, 2)) {n : Int32} {rest : List Value}
    (hn : 0 ≤ n.toInt) {cap : Nat} (hcap : n.toInt ≤ cap) (hb : cap * 8 ≤ 536870912) (hc : cells + 1 ≤ R.cells) (hl : slots + cap ≤ R.slots) (hf : fits (newarray.typeOf aty) (defaultValue (newarray.typeOf aty)) = true)
    (k : ∀ (T' : State) (h' : Heap) (a : Addr), a = h.size → Stand p l e R s m args below meth c T' locs (cells + 1) (slots + cap) → T'.heap = h' → Ext h h' → own_A Z h' a (newarray.typeOf aty) n (fun _ => defaultValue (newarray.typeOf aty)) → Go p e below G kc ks Q T' (mkF m (pc + 2) Ls (.ref a :: rest))) :
    Go p e below G kc ks Q T (mkF m pc Ls (.int n :: rest)) := by
  obtain ⟨T', h', cA, X', e', E', A', st⟩ := newP X hx hZ w eT (g := mkF m pc Ls (.int n :: rest)) rfl hd rfl (own_nneg hn) (cap := cap) (by rw [own_cl]; omega) hb hc hl
  exact own_st st (k T' h' _ rfl X' e' E' (own_A.new A' hn hf))
theorem own_alen (X : Stand p l e R s m args below meth c T locs cells slots) (hx : p.tables.exec = Jvm.exec) (hZ : Z.Warmed39 s.vm) (eT : T.heap = h) {a : Addr} {ty : FieldType} {n : Int32} {f : Nat → Value} (A : own_A Z h a ty n f) {pc : Nat} {Ls : Array Slot} {rest : List Value} (hd : decode c.code pc = .ok (.arraylength, 1))
    (k : Go p e below G kc ks Q T (mkF m (pc + 1) Ls (.int n :: rest))) : Go p e below G kc ks Q T (mkF m pc Ls (.ref a :: rest)) := by
  obtain ⟨cl, Ar, hs, h0, -, -⟩ := A
  rw [← len_of hs (own_nneg h0)] at k
  exact own_st (fun t q => X.arraylength hx (by rw [eT]; exact Ar.1) (State.isArrayOf_alike hZ.alike Ar.2.1) (g := mkF m pc Ls (.ref a :: rest)) rfl rfl hd t q) k
theorem own_iaload (X : Stand p l e R s m args below meth c T locs cells slots) (hx : p.tables.exec = Jvm.exec) (hZ : Z.Warmed39 s.vm) (eT : T.heap = h) {a : Addr} {n j : Int32} {f : Nat → Value} {v : Value} (A : own_A Z h a .int n f) (h0 : 0 ≤ j.toInt) (h1 : j.toInt < n.toInt) (hv : f j.toInt.toNat = v) {pc : Nat} {Ls : Array Slot} {rest : List Value} (hd : decode c.code pc = .ok (.iaload, 1))
    (k : Go p e below G kc ks Q T (mkF m (pc + 1) Ls (v :: rest))) : Go p e below G kc ks Q T (mkF m pc Ls (.int j :: .ref a :: rest)) := by
  obtain ⟨cl, Ar, hs, hn, H, -⟩ := A
  exact own_st (fun t q => X.iaload hx (j := j) (v := v) (by rw [eT]; exact Ar.1) (State.isArrayOf_alike hZ.alike Ar.2.1) Ar.2.2 (own_in hs h0 h1) (hv ▸ H _ (own_ilt hs h0 h1)) (g := mkF m pc Ls (.int j :: .ref a :: rest)) rfl rfl hd t q) k
theorem own_laload (X : Stand p l e R s m args below meth c T locs cells slots) (hx : p.tables.exec = Jvm.exec) (hZ : Z.Warmed39 s.vm) (eT : T.heap = h) {a : Addr} {n j : Int32} {f : Nat → Value} {v : Value} (A : own_A Z h a .long n f) (h0 : 0 ≤ j.toInt) (h1 : j.toInt < n.toInt) (hv : f j.toInt.toNat = v) {pc : Nat} {Ls : Array Slot} {rest : List Value} (hd : decode c.code pc = .ok (.laload, 1))
    (k : Go p e below G kc ks Q T (mkF m (pc + 1) Ls (v :: rest))) : Go p e below G kc ks Q T (mkF m pc Ls (.int j :: .ref a :: rest)) := by
  obtain ⟨cl, Ar, hs, hn, H, -⟩ := A
  exact own_st (fun t q => X.laload hx (j := j) (v := v) (by rw [eT]; exact Ar.1) (State.isArrayOf_alike hZ.alike Ar.2.1) Ar.2.2 (own_in hs h0 h1) (hv ▸ H _ (own_ilt hs h0 h1)) (g := mkF m pc Ls (.int j :: .ref a :: rest)) rfl rfl hd t q) k
theorem own_caload (X : Stand p l e R s m args below meth c T locs cells slots) (hx : p.tables.exec = Jvm.exec) (hZ : Z.Warmed39 s.vm) (eT : T.heap = h) {a : Addr} {n j : Int32} {f : Nat → Value} {v : Value} (A : own_A Z h a .char n f) (h0 : 0 ≤ j.toInt) (h1 : j.toInt < n.toInt) (hv : f j.toInt.toNat = v) {pc : Nat} {Ls : Array Slot} {rest : List Value} (hd : decode c.code pc = .ok (.caload, 1))
    (k : Go p e below G kc ks Q T (mkF m (pc + 1) Ls (v :: rest))) : Go p e below G kc ks Q T (mkF m pc Ls (.int j :: .ref a :: rest)) := by
  obtain ⟨cl, Ar, hs, hn, H, -⟩ := A
  exact own_st (fun t q => X.caload hx (j := j) (v := v) (by rw [eT]; exact Ar.1) (State.isArrayOf_alike hZ.alike Ar.2.1) Ar.2.2 (own_in hs h0 h1) (hv ▸ H _ (own_ilt hs h0 h1)) (g := mkF m pc Ls (.int j :: .ref a :: rest)) rfl rfl hd t q) k
theorem own_baload (X : Stand p l e R s m args below meth c T locs cells slots) (hx : p.tables.exec = Jvm.exec) (hZ : Z.Warmed39 s.vm) (eT : T.heap = h) {a : Addr} {n j : Int32} {f : Nat → Value} {v : Value} (A : own_A Z h a .byte n f) (h0 : 0 ≤ j.toInt) (h1 : j.toInt < n.toInt) (hv : f j.toInt.toNat = v) {pc : Nat} {Ls : Array Slot} {rest : List Value} (hd : decode c.code pc = .ok (.baload, 1))
    (k : Go p e below G kc ks Q T (mkF m (pc + 1) Ls (v :: rest))) : Go p e below G kc ks Q T (mkF m pc Ls (.int j :: .ref a :: rest)) := by
  obtain ⟨cl, Ar, hs, hn, H, -⟩ := A
  exact own_st (fun t q => X.baloadBytes hx (j := j) (v := v) (by rw [eT]; exact Ar.1) (State.isArrayOf_alike hZ.alike Ar.2.1) Ar.2.2 (own_in hs h0 h1) (hv ▸ H _ (own_ilt hs h0 h1)) (g := mkF m pc Ls (.int j :: .ref a :: rest)) rfl rfl hd t q) k
theorem own_zaload (X : Stand p l e R s m args below meth c T locs cells slots) (hx : p.tables.exec = Jvm.exec) (hZ : Z.Warmed39 s.vm) (eT : T.heap = h) {a : Addr} {n j : Int32} {f : Nat → Value} {v : Value} (A : own_A Z h a .boolean n f) (h0 : 0 ≤ j.toInt) (h1 : j.toInt < n.toInt) (hv : f j.toInt.toNat = v) {pc : Nat} {Ls : Array Slot} {rest : List Value} (hd : decode c.code pc = .ok (.baload, 1))
    (k : Go p e below G kc ks Q T (mkF m (pc + 1) Ls (v :: rest))) : Go p e below G kc ks Q T (mkF m pc Ls (.int j :: .ref a :: rest)) := by
  obtain ⟨cl, Ar, hs, hn, H, -⟩ := A
  exact own_st (fun t q => X.baloadBooleans hx (j := j) (v := v) (by rw [eT]; exact Ar.1) (State.isArrayOf_alike hZ.alike Ar.2.1) Ar.2.2 (own_in hs h0 h1) (hv ▸ H _ (own_ilt hs h0 h1)) (g := mkF m pc Ls (.int j :: .ref a :: rest)) rfl rfl hd t q) k
theorem own_aaload (X : Stand p l e R s m args below meth c T locs cells slots) (hx : p.tables.exec = Jvm.exec) (hZ : Z.Warmed39 s.vm) (eT : T.heap = h) {a : Addr} {ty : FieldType} {n j : Int32} {f : Nat → Value} {v : Value} (A : own_A Z h a ty n f) (hty : ty.isReference = true) (h0 : 0 ≤ j.toInt) (h1 : j.toInt < n.toInt) (hv : f j.toInt.toNat = v) {pc : Nat} {Ls : Array Slot} {rest : List Value} (hd : decode c.code pc = .ok (.aaload, 1))
    (k : Go p e below G kc ks Q T (mkF m (pc + 1) Ls (v :: rest))) : Go p e below G kc ks Q T (mkF m pc Ls (.int j :: .ref a :: rest)) := by
  obtain ⟨cl, Ar, hs, hn, H, -⟩ := A
  exact own_st (fun t q => X.aaload hx (j := j) (v := v) (by rw [eT]; exact Ar.1) (State.isArrayOf_alike hZ.alike Ar.2.1) hty Ar.2.2 (own_in hs h0 h1) (hv ▸ H _ (own_ilt hs h0 h1)) (g := mkF m pc Ls (.int j :: .ref a :: rest)) rfl rfl hd t q) k
theorem own_iastore (X : Stand p l e R s m args below meth c T locs cells slots) (hx : p.tables.exec = Jvm.exec) (hZ : Z.Warmed39 s.vm) (eT : T.heap = h) {a : Addr} {n j : Int32} {f : Nat → Value} {x : Int32} (A : own_A Z h a .int n f) (h0 : 0 ≤ j.toInt) (h1 : j.toInt < n.toInt) {pc : Nat} {Ls : Array Slot} {rest : List Value} (hd : decode c.code pc = .ok (.iastore, 1))
    (k : ∀ (T' : State) (h' : Heap), Stand p l e R s m args below meth c T' (locs ++ [⟨a, j.toNatClampNeg⟩]) cells slots → T'.heap = h' → Wr h h' a j.toNatClampNeg (.int x) → own_A Z h' a .int n (fun i => if i = j.toInt.toNat then (.int x) else f i) → Go p e below G kc ks Q T' (mkF m (pc + 1) Ls rest)) : Go p e below G kc ks Q T (mkF m pc Ls (.int x :: .int j :: .ref a :: rest)) := by
  obtain ⟨cl, Ar, hs, hn, H, G⟩ := A
  obtain ⟨T', h', X', e', W', st⟩ := stI X hx hZ eT Ar (j := j) (x := x) (own_in hs h0 h1) (g := mkF m pc Ls (.int x :: .int j :: .ref a :: rest)) rfl rfl hd
  exact own_st st (k T' h' X' e' W' (own_A.set Ar hs hn H G rfl W' (own_ilt hs h0 h1)))
theorem own_lastore (X : Stand p l e R s m args below meth c T locs cells slots) (hx : p.tables.exec = Jvm.exec) (hZ : Z.Warmed39 s.vm) (eT : T.heap = h) {a : Addr} {n j : Int32} {f : Nat → Value} {x : Int64} (A : own_A Z h a .long n f) (h0 : 0 ≤ j.toInt) (h1 : j.toInt < n.toInt) {pc : Nat} {Ls : Array Slot} {rest : List Value} (hd : decode c.code pc = .ok (.lastore, 1))
    (k : ∀ (T' : State) (h' : Heap), Stand p l e R s m args below meth c T' (locs ++ [⟨a, j.toNatClampNeg⟩]) cells slots → T'.heap = h' → Wr h h' a j.toNatClampNeg (.long x) → own_A Z h' a .long n (fun i => if i = j.toInt.toNat then (.long x) else f i) → Go p e below G kc ks Q T' (mkF m (pc + 1) Ls rest)) : Go p e below G kc ks Q T (mkF m pc Ls (.long x :: .int j :: .ref a :: rest)) := by
  obtain ⟨cl, Ar, hs, hn, H, G⟩ := A
  obtain ⟨T', h', X', e', W', st⟩ := stJ X hx hZ eT Ar (j := j) (x := x) (own_in hs h0 h1) (g := mkF m pc Ls (.long x :: .int j :: .ref a :: rest)) rfl rfl hd
  exact own_st st (k T' h' X' e' W' (own_A.set Ar hs hn H G rfl W' (own_ilt hs h0 h1)))
theorem own_bastore (X : Stand p l e R s m args below meth c T locs cells slots) (hx : p.tables.exec = Jvm.exec) (hZ : Z.Warmed39 s.vm) (eT : T.heap = h) {a : Addr} {n j : Int32} {f : Nat → Value} {x : Int32} (A : own_A Z h a .byte n f) (h0 : 0 ≤ j.toInt) (h1 : j.toInt < n.toInt) {pc : Nat} {Ls : Array Slot} {rest : List Value} (hd : decode c.code pc = .ok (.bastore, 1))
    (k : ∀ (T' : State) (h' : Heap), Stand p l e R s m args below meth c T' (locs ++ [⟨a, j.toNatClampNeg⟩]) cells slots → T'.heap = h' → Wr h h' a j.toNatClampNeg (.int (nar .byte x)) → own_A Z h' a .byte n (fun i => if i = j.toInt.toNat then (.int (nar .byte x)) else f i) → Go p e below G kc ks Q T' (mkF m (pc + 1) Ls rest)) : Go p e below G kc ks Q T (mkF m pc Ls (.int x :: .int j :: .ref a :: rest)) := by
  obtain ⟨cl, Ar, hs, hn, H, G⟩ := A
  obtain ⟨T', h', X', e', W', st⟩ := stB X hx hZ eT Ar (j := j) (x := x) (own_in hs h0 h1) (g := mkF m pc Ls (.int x :: .int j :: .ref a :: rest)) rfl rfl hd
  exact own_st st (k T' h' X' e' W' (own_A.set Ar hs hn H G (fits_nar_byte x) W' (own_ilt hs h0 h1)))
theorem own_castore (X : Stand p l e R s m args below meth c T locs cells slots) (hx : p.tables.exec = Jvm.exec) (hZ : Z.Warmed39 s.vm) (eT : T.heap = h) {a : Addr} {n j : Int32} {f : Nat → Value} {x : Int32} (A : own_A Z h a .char n f) (h0 : 0 ≤ j.toInt) (h1 : j.toInt < n.toInt) {pc : Nat} {Ls : Array Slot} {rest : List Value} (hd : decode c.code pc = .ok (.castore, 1))
    (k : ∀ (T' : State) (h' : Heap), Stand p l e R s m args below meth c T' (locs ++ [⟨a, j.toNatClampNeg⟩]) cells slots → T'.heap = h' → Wr h h' a j.toNatClampNeg (.int (nar .char x)) → own_A Z h' a .char n (fun i => if i = j.toInt.toNat then (.int (nar .char x)) else f i) → Go p e below G kc ks Q T' (mkF m (pc + 1) Ls rest)) : Go p e below G kc ks Q T (mkF m pc Ls (.int x :: .int j :: .ref a :: rest)) := by
  obtain ⟨cl, Ar, hs, hn, H, G⟩ := A
  obtain ⟨T', h', X', e', W', st⟩ := stC X hx hZ eT Ar (j := j) (x := x) (own_in hs h0 h1) (g := mkF m pc Ls (.int x :: .int j :: .ref a :: rest)) rfl rfl hd
  exact own_st st (k T' h' X' e' W' (own_A.set Ar hs hn H G (fits_nar_char x) W' (own_ilt hs h0 h1)))
theorem own_zastore (X : Stand p l e R s m args below meth c T locs cells slots) (hx : p.tables.exec = Jvm.exec) (hZ : Z.Warmed39 s.vm) (eT : T.heap = h) {a : Addr} {n j : Int32} {f : Nat → Value} {x : Int32} (A : own_A Z h a .boolean n f) (h0 : 0 ≤ j.toInt) (h1 : j.toInt < n.toInt) {pc : Nat} {Ls : Array Slot} {rest : List Value} (hd : decode c.code pc = .ok (.bastore, 1))
    (k : ∀ (T' : State) (h' : Heap), Stand p l e R s m args below meth c T' (locs ++ [⟨a, j.toNatClampNeg⟩]) cells slots → T'.heap = h' → Wr h h' a j.toNatClampNeg (.int (nar .boolean x)) → own_A Z h' a .boolean n (fun i => if i = j.toInt.toNat then (.int (nar .boolean x)) else f i) → Go p e below G kc ks Q T' (mkF m (pc + 1) Ls rest)) : Go p e below G kc ks Q T (mkF m pc Ls (.int x :: .int j :: .ref a :: rest)) := by
  obtain ⟨cl, Ar, hs, hn, H, G⟩ := A
  obtain ⟨T', h', X', e', W', st⟩ := stZ X hx hZ eT Ar (j := j) (x := x) (own_in hs h0 h1) (g := mkF m pc Ls (.int x :: .int j :: .ref a :: rest)) rfl rfl hd
  exact own_st st (k T' h' X' e' W' (own_A.set Ar hs hn H G (fits_nar_bool x) W' (own_ilt hs h0 h1)))
theorem own_eqv {args : Array Value} {s : State} {t : Term} {k : Int32} (h : (Jvm.Cond.eq t (.int k)).value args s none s [] = some true) : t.eval args s none [] s = some (.int k) := by
  simp only [Cond.value, Term.eval] at h
  cases e : t.eval args s none [] s with
  | none => simp [e] at h
  | some v => cases v <;> simp [e] at h; exact congrArg _ (congrArg _ h)
theorem own_fldeq {args : Array Value} {s : State} {t : Term} {x : Addr} {C n d : String} {k : Int32} (ht : t.eval args s none [] s = some (.ref x)) (h : (Jvm.Cond.eq (.field t C n d) (.int k)).value args s none s [] = some true) : Fld s s.heap x C n d (.int k) :=
  Fld.start ((fld_at ht).symm.trans (own_eqv h))
/-- the array at a is one of C's -/
def own_O (Z : State) (h : Heap) (a : Addr) (C : String) : Prop := ∃ cl : Cell, h[a]? = some cl ∧ Ovr Z cl.cls C
theorem own_O.ext {h h' : Heap} {a : Addr} {C : String} (F : own_O Z h a C) (E : Ext h h') : own_O Z h' a C := by obtain ⟨c, A, r⟩ := F; exact ⟨c, E.2 _ _ A, r⟩
theorem own_O.wr {h h' : Heap} {a b : Addr} {C : String} {sl : Nat} {v : Value} (F : own_O Z h a C) (W : Wr h h' b sl v) : own_O Z h' a C := by
  obtain ⟨c, A, r⟩ := F
  obtain ⟨c', e1, e2, -⟩ := wr_at W A
  exact ⟨c', e1, by rw [e2]; exact r⟩
theorem own_newarrR (X : Stand p l e R s m args below meth c T locs cells slots) (hx : p.tables.exec = Jvm.exec) (hZ : Z.Warmed39 s.vm) {own C : String} {index : Nat} (hown : s.vm.findClass own = some m.cls) (w1 : (Jvm.Cond.classLink own index C).before a0 Z = true) (w2 : (Jvm.Cond.arrayOver (.object C)).before a0 Z = true) (eT : T.heap = h) {pc : Nat} {Ls : Array Slot} (hd : decode c.code pc = .ok (.anewarray index, 3)) {n : Int32} {rest : List Value}
    (hn : 0 ≤ n.toInt) {cap : Nat} (hcap : n.toInt ≤ cap) (hb : cap * 8 ≤ 536870912) (hc : cells + 1 ≤ R.cells) (hl : slots + cap ≤ R.slots)
    (k : ∀ (T' : State) (h' : Heap) (a : Addr), a = h.size → Stand p l e R s m args below meth c T' locs (cells + 1) (slots + cap) → T'.heap = h' → Ext h h' → own_A Z h' a (.object C) n (fun _ => .null) → own_O Z h' a C → Go p e below G kc ks Q T' (mkF m (pc + 3) Ls (.ref a :: rest))) :
    Go p e below G kc ks Q T (mkF m pc Ls (.int n :: rest)) := by
  obtain ⟨T', h', cA, X', e', E', A', O', st⟩ := newR X hx hZ hown w1 w2 eT (g := mkF m pc Ls (.int n :: rest)) rfl hd rfl (own_nneg hn) (cap := cap) (by rw [own_cl]; omega) hb hc hl
  exact own_st st (k T' h' _ rfl X' e' E' (own_A.new A' hn rfl) ⟨_, A'.1, O'⟩)
theorem own_aastore (X : Stand p l e R s m args below meth c T locs cells slots) (hx : p.tables.exec = Jvm.exec) (hZ : Z.Warmed39 s.vm) (eT : T.heap = h) {a y : Addr} {n j : Int32} {f : Nat → Value} {C : String} (A : own_A Z h a (.object C) n f) (O : own_O Z h a C) (I : Ins Z h y C true) (h0 : 0 ≤ j.toInt) (h1 : j.toInt < n.toInt) {pc : Nat} {Ls : Array Slot} {rest : List Value} (hd : decode c.code pc = .ok (.aastore, 1))
    (k : ∀ (T' : State) (h' : Heap), Stand p l e R s m args below meth c T' (locs ++ [⟨a, j.toNatClampNeg⟩]) cells slots → T'.heap = h' → Wr h h' a j.toNatClampNeg (.ref y) → own_A Z h' a (.object C) n (fun i => if i = j.toInt.toNat then .ref y else f i) → Go p e below G kc ks Q T' (mkF m (pc + 1) Ls rest)) : Go p e below G kc ks Q T (mkF m pc Ls (.ref y :: .int j :: .ref a :: rest)) := by
  obtain ⟨cl, Ar, hs, hn, H, G⟩ := A
  obtain ⟨cl', o1, o2⟩ := O
  cases Ar.1.symm.trans o1
  obtain ⟨T', h', X', e', W', st⟩ := stR X hx hZ eT Ar (j := j) (v := .ref y) (own_in hs h0 h1) rfl (Sto.of Ar o2 I) (g := mkF m pc Ls (.ref y :: .int j :: .ref a :: rest)) rfl rfl hd
  exact own_st st (k T' h' X' e' W' (own_A.set Ar hs hn H G rfl W' (own_ilt hs h0 h1)))
theorem own_sk0 {h h' : Heap} {C n d : String} {v : Value} (F : Sta Z h C n d v) (K : Keep h h' []) : Sta Z h' C n d v := by
  obtain ⟨cf, i, k, f, st, cell, h1, h2, h3, h4, h5, r⟩ := F
  exact ⟨cf, i, k, f, st, cell, h1, h2, h3, h4, K.2.1 _ _ h5 nin0, r⟩
theorem own_sk1 {h h' : Heap} {a : Addr} {C n d D : String} {v : Value} (F : Sta Z h C n d v) (K : Keep h h' [a]) (E : Exa Z h a D) : Sta Z h' C n d v := by
  obtain ⟨cf, i, k, f, st, cell, h1, h2, h3, h4, h5, h6, h7⟩ := F
  obtain ⟨c2, k2, e1, e2, e3, e4, e5⟩ := E
  have ne : st ≠ a := fun q => by
    subst q
    cases h5.symm.trans e1
    rw [e4] at h6; cases h6
  exact ⟨cf, i, k, f, st, cell, h1, h2, h3, h4, K.2.1 _ _ h5 (ninS ne nin0), h6, h7⟩
/-- each of the first n places holds an object of class D -/
def own_IC (Z : State) (h : Heap) (D : String) (n : Nat) (f : Nat → Value) : Prop := ∀ i, i < n → ∃ b : Addr, f i = .ref b ∧ Exa Z h b D
theorem own_IC.ext {h h' : Heap} {D : String} {n : Nat} {f : Nat → Value} (F : own_IC Z h D n f) (E : Ext h h') : own_IC Z h' D n f := fun i hi => by obtain ⟨b, e1, e2⟩ := F i hi; exact ⟨b, e1, e2.ext E⟩
theorem own_IC.wr {h h' : Heap} {D : String} {n : Nat} {f : Nat → Value} {a : Addr} {sl : Nat} {v : Value} (F : own_IC Z h D n f) (W : Wr h h' a sl v) : own_IC Z h' D n f := fun i hi => by obtain ⟨b, e1, e2⟩ := F i hi; exact ⟨b, e1, Exa.wr W e2⟩
theorem own_IC.keep {h h' : Heap} {D : String} {n : Nat} {f : Nat → Value} {ws : List Addr} (F : own_IC Z h D n f) (K : Keep h h' ws) : own_IC Z h' D n f := fun i hi => by obtain ⟨b, e1, e2⟩ := F i hi; exact ⟨b, e1, e2.keep K⟩
/-- an object of class D is no K -/
theorem own_notIns {h : Heap} {b : Addr} {D K : String} {t : List String} {kk : Nat} (E : Exa Z h b D) (hw : ∀ w ∈ Cond.chainWords (D :: t), w.before a0 Z = true) (wi : (Jvm.Cond.instantiable K kk).before a0 Z = true) (hn : K ∉ D :: t) : Ins Z h b K false := by
  obtain ⟨cell, k, e1, e2, e3, e4, e5⟩ := E
  obtain ⟨cK, kK, i1, i2, i3, i4⟩ := Cond.instantiable_spec wi
  refine ⟨cell, cK, e1, i1, ?_⟩
  rw [Vm.notAssignable_of_chain e2 i1 i2 i3 (by simpa using (Bool.or_eq_false_iff.mp i4.1).1) hw hn]
  simp
theorem own_cache {s : State} {args : Array Value} {t : Term} {a : Addr} {K : String} {B : Jvm.Cond} (et : ∀ idx, t.eval args s none idx s = some (.ref a)) (hA : (Jvm.Cond.arrayOf t (.object K)).value args s none s [] = some true) (hL : (Jvm.Cond.eq (.length t) (.int 256)).value args s none s [] = some true)
    (h : (Jvm.Cond.all t (.and (.exactly (.elem t (.index 0)) K) B)).value args s none s [] = some true) : ∃ fc, own_A s s.heap a (.object K) 256 fc ∧ own_IC s s.heap K 256 fc := by
  obtain ⟨cl, A⟩ := Arr.start (et []) hA
  have ha := A.fin (Vm.Alike.refl _)
  have hl := own_eqv hL
  have hsz : cl.slots.size = 256 := by
    by_cases q : cl.slots.size < 2 ^ 31
    · rw [len_f (et []) ha q] at hl
      have e := congrArg Int32.toInt (Value.int.inj (Option.some.inj hl))
      rw [len_toInt q] at e
      have k : (256 : Int32).toInt = 256 := rfl
      omega
    · simp [Term.eval, et [], ha, q] at hl
  have hel : ∀ i, i < cl.slots.size → ∃ b : Addr, cl.slots[i]? = some (.ref b) ∧ Exa s s.heap b K := fun i hi => by
    have hj : ¬ i.toInt32 < 0 := fun z => (idx_in hi (by omega)) (Or.inl z)
    have hc : i.toInt32.toNatClampNeg = i := by
      rw [own_cl, len_toInt (by omega)]; rfl
    obtain ⟨u1, u2⟩ := and_e (Cond.all_elim (et []) ha h i hi)
    obtain ⟨b, eb⟩ := exa_v u1
    refine ⟨b, ?_, exa_at eb u1⟩
    have q := (elem_f (idx := [i]) (a := .index 0) (j := i.toInt32) (et _) (by have := idx_at (args := args) (s := s) (first := s) (o := none) hj; rwa [hc] at this) ha hj).symm.trans eb
    rwa [hc] at q
  refine ⟨fun i => (cl.slots[i]?).getD .null, ⟨cl, A, by rw [hsz]; rfl, by decide, fun i hi => ?_, fun i hi => ?_⟩, fun i hi => ?_⟩
  · obtain ⟨b, e, -⟩ := hel i hi; simp [e]
  · obtain ⟨b, e, -⟩ := hel i hi; simp [e, fits]
  · obtain ⟨b, e, E⟩ := hel i (by omega); exact ⟨b, by simp [e], E⟩
end OwnKit
section OwnBytes
variable {p : Program} {l : Launch} {e : Env} {R : Room} {s : State} {G : own_K} {m : MethodId} {args : Array Value} {below : List Frame} {meth : Method} {c : Code} {T T' : State} {locs : List Loc} {cells slots : Nat} {Z : State} {a0 : Array Value} {h : Heap} {kc ks : Nat} {Q : Option Value → Heap → List Loc → Prop}
/-- newarray, with the array's class by its name -/
theorem own_newarrE (X : Stand p l e R s m args below meth c T locs cells slots) (hx : p.tables.exec = Jvm.exec) (hZ : Z.Warmed39 s.vm) {aty : ArrayType} (w : (Jvm.Cond.arrayClass (newarray.typeOf aty)).before a0 Z = true) (eT : T.heap = h) {pc : Nat} {Ls : Array Slot} (hd : decode c.code pc = .ok (.newarray aty, 2)) {n : Int32} {rest : List Value}
    (hn : 0 ≤ n.toInt) {cap : Nat} (hcap : n.toInt ≤ cap) (hb : cap * 8 ≤ 536870912) (hc : cells + 1 ≤ R.cells) (hl : slots + cap ≤ R.slots) (hf : fits (newarray.typeOf aty) (defaultValue (newarray.typeOf aty)) = true) {C : String} (hC : "[" ++ (newarray.typeOf aty).toString = C)
    (k : ∀ (T' : State) (h' : Heap) (a : Addr), a = h.size → Stand p l e R s m args below meth c T' locs (cells + 1) (slots + cap) → T'.heap = h' → Ext h h' → own_A Z h' a (newarray.typeOf aty) n (fun _ => defaultValue (newarray.typeOf aty)) → Exa Z h' a C → Go p e below G kc ks Q T' (mkF m (pc + 2) Ls (.ref a :: rest))) :
    Go p e below G kc ks Q T (mkF m pc Ls (.int n :: rest)) := by
  have hcb : componentBytes (newarray.typeOf aty) ≤ 8 := by cases aty <;> decide
  have hcap' : n.toNatClampNeg ≤ cap := by rw [own_cl]; omega
  obtain ⟨cA, kA, comp, h1, h2, h3, X', st⟩ := X.newarrayPrim hx (mvA hZ w) (g := mkF m pc Ls (.int n :: rest)) rfl hd rfl (own_nneg hn) (Nat.le_trans (Nat.mul_le_mul hcap' hcb) hb) hc (by omega)
  subst eT
  rw [hZ.alike.findClass] at h1
  obtain ⟨kZ, z1, -⟩ := Vm.findClass_spec h1
  obtain ⟨k', z2, z3⟩ := hZ.alike.2.2 _ _ z1
  cases h2.symm.trans z2
  have A' : Arr Z (T.heap.push (newA cA (newarray.typeOf aty) n)) T.heap.size (newA cA (newarray.typeOf aty) n) (newarray.typeOf aty) := ⟨by simp [newA], ⟨by simp [newA], kZ, z1, comp, by rw [← h3, z3]⟩, by simp [newA]⟩
  refine own_st st (k _ _ _ rfl (X'.more (Nat.le_refl _) (by omega)) rfl ⟨by show T.heap.size ≤ (T.heap.push _).size; simp, fun a c h => ?_⟩ (own_A.new A' hn hf) (exa_arr A' (by rw [← hC]; exact h1) rfl))
  show (T.heap.push _)[a]? = _
  rw [Array.getElem?_push_lt (Array.getElem?_eq_some_iff.mp h).1]; exact (Array.getElem?_eq_getElem _).symm.trans h
/-- a byte[] of length n whose first places hold q -/
def own_B (Z : State) (h : Heap) (a : Addr) (q : List Int32) (n : Int32) : Prop := ∃ f, own_A Z h a .byte n f ∧ ∀ i, i < q.length → f i = .int (q.getD i 0)
section
variable {h h' : Heap} {a b : Addr} {q : List Int32} {n : Int32} {sl : Nat} {v : Value} {ws : List Addr}
theorem own_B.lt (F : own_B Z h a q n) : a < h.size := by obtain ⟨f, A, -⟩ := F; exact A.lt
theorem own_B.ext (F : own_B Z h a q n) (E : Ext h h') : own_B Z h' a q n := by obtain ⟨f, A, r⟩ := F; exact ⟨f, A.ext E, r⟩
theorem own_B.other (F : own_B Z h b q n) (W : Wr h h' a sl v) (z : b ≠ a) : own_B Z h' b q n := by obtain ⟨f, A, r⟩ := F; exact ⟨f, A.other W z, r⟩
theorem own_B.keep (F : own_B Z h a q n) (K : Keep h h' ws) (z : a ∉ ws) : own_B Z h' a q n := by obtain ⟨f, A, r⟩ := F; exact ⟨f, A.keep K z, r⟩
theorem own_B.new {f : Nat → Value} (A : own_A Z h a .byte n f) : own_B Z h a [] n := ⟨f, A, fun i hi => absurd hi (by simp)⟩
end
theorem own_narb {x : Int32} (h0 : -128 ≤ x.toInt) (h1 : x.toInt ≤ 127) : nar .byte x = x := by
  have q := c_i2b x
  apply Int32.toInt_inj.mp
  show (x.toInt8.toInt32).toInt = x.toInt
  omega
theorem own_bput (X : Stand p l e R s m args below meth c T locs cells slots) (hx : p.tables.exec = Jvm.exec) (hZ : Z.Warmed39 s.vm) (eT : T.heap = h) {a : Addr} {n j x : Int32} {q : List Int32} (A : own_B Z h a q n) (h0 : j.toInt = q.length) (h1 : j.toInt < n.toInt) (b0 : -128 ≤ x.toInt) (b1 : x.toInt ≤ 127) {pc : Nat} {Ls : Array Slot} {rest : List Value} (hd : decode c.code pc = .ok (.bastore, 1))
    (k : ∀ (T' : State) (h' : Heap), Stand p l e R s m args below meth c T' (locs ++ [⟨a, j.toNatClampNeg⟩]) cells slots → T'.heap = h' → Wr h h' a j.toNatClampNeg (.int x) → own_B Z h' a (q ++ [x]) n → Go p e below G kc ks Q T' (mkF m (pc + 1) Ls rest)) : Go p e below G kc ks Q T (mkF m pc Ls (.int x :: .int j :: .ref a :: rest)) := by
  obtain ⟨f, A, F⟩ := A
  refine own_bastore X hx hZ eT A (by omega) h1 hd ?_
  intro T' h' X' e' W' A'
  rw [own_narb b0 b1] at W' A'
  refine k T' h' X' e' W' ⟨_, A', fun i hi => ?_⟩
  have jt : j.toInt.toNat = q.length := by omega
  rw [List.length_append, List.length_singleton] at hi
  by_cases t : i = q.length
  · simp [jt, t]
  · have : i < q.length := by omega
    simp only [jt, t, if_false]
    rw [F i this]
    simp [List.getD_eq_getElem?_getD, List.getElem?_append_left this]
theorem own_bget (X : Stand p l e R s m args below meth c T locs cells slots) (hx : p.tables.exec = Jvm.exec) (hZ : Z.Warmed39 s.vm) (eT : T.heap = h) {a : Addr} {n j v : Int32} {q : List Int32} (A : own_B Z h a q n) (h0 : 0 ≤ j.toInt) (h1 : j.toInt < q.length) (h2 : j.toInt < n.toInt) (hv : q.getD j.toInt.toNat 0 = v) {pc : Nat} {Ls : Array Slot} {rest : List Value} (hd : decode c.code pc = .ok (.baload, 1))
    (k : Go p e below G kc ks Q T (mkF m (pc + 1) Ls (.int v :: rest))) : Go p e below G kc ks Q T (mkF m pc Ls (.int j :: .ref a :: rest)) := by
  obtain ⟨f, A, F⟩ := A
  exact own_baload X hx hZ eT A h0 h2 (v := .int v) (by rw [F _ (by omega), hv]) hd k
theorem own_blen (X : Stand p l e R s m args below meth c T locs cells slots) (hx : p.tables.exec = Jvm.exec) (hZ : Z.Warmed39 s.vm) (eT : T.heap = h) {a : Addr} {n : Int32} {q : List Int32} (A : own_B Z h a q n) {pc : Nat} {Ls : Array Slot} {rest : List Value} (hd : decode c.code pc = .ok (.arraylength, 1))
    (k : Go p e below G kc ks Q T (mkF m (pc + 1) Ls (.int n :: rest))) : Go p e below G kc ks Q T (mkF m pc Ls (.ref a :: rest)) := by
  obtain ⟨f, A, F⟩ := A
  exact own_alen X hx hZ eT A hd k
theorem own_fitC {a : Addr} {ty : FieldType} {cl : Cell} {f : Nat → Value} (A : Arr Z h a cl ty) (H : ∀ i, i < cl.slots.size → cl.slots[i]? = some (f i)) (G : ∀ i, i < cl.slots.size → fits ty (f i) = true) : FitC Z cl := fun i v hv => by
  obtain ⟨hi, -⟩ := Array.getElem?_eq_some_iff.mp hv
  have e1 : v = f i := Option.some.inj (hv.symm.trans (H i hi))
  obtain ⟨hs, k, hk, comp, hkind⟩ := A.2.1
  have e : Z.slotType? cl.cls .none i = some ty := by simp [State.slotType?, hk, hkind]
  rw [e1]
  simpa [State.fitsSlot, e] using G i hi
/-- clone() of an array -/
theorem own_clone (X : Stand p l e R s m args below meth c T locs cells slots) (hx : p.tables.exec = Jvm.exec) (hZ : Z.Warmed39 s.vm) {own ad : String} {index : Nat} (hown : s.vm.findClass own = some m.cls)
    (w1 : (Jvm.Cond.methodLink own index ⟨ad, "clone", "()Ljava/lang/Object;"⟩).before a0 Z = true) (w2 : (Jvm.Cond.sameMethod ad "java/lang/Object" "clone" "()Ljava/lang/Object;").before a0 Z = true) (w3 : (Jvm.Cond.native ⟨"java/lang/Object", "clone", "()Ljava/lang/Object;"⟩).before a0 Z = true)
    (w4 : (Jvm.Cond.instanceMethod ⟨"java/lang/Object", "clone", "()Ljava/lang/Object;"⟩).before a0 Z = true) (w5 : (Jvm.Cond.selects ad ⟨ad, "clone", "()Ljava/lang/Object;"⟩ ⟨"java/lang/Object", "clone", "()Ljava/lang/Object;"⟩).before a0 Z = true) (w6 : (Jvm.Cond.castable ad "java/lang/Cloneable").before a0 Z = true)
    (eT : T.heap = h) {a : Addr} {ty : FieldType} {n : Int32} {f : Nat → Value} (A : own_A Z h a ty n f) (E : Exa Z h a ad) {pc : Nat} {Ls : Array Slot} {rest : List Value} (hsize : Ls.size = c.maxLocals) (hd : decode c.code pc = .ok (.invokevirtual index, 3))
    (hf : 1 ≤ R.frames) {W cap : Nat} (hW : (rest.map fun v => v.category).sum ≤ W) (hl : W + 14 ≤ R.locals) (hcap : n.toInt ≤ cap) (hc : cells + 1 ≤ R.cells) (hsl : slots + cap ≤ R.slots)
    (k : ∀ (T' : State) (h' : Heap) (a' : Addr), a' = h.size → Stand p l e R s m args below meth c T' locs (cells + 1) (slots + cap) → T'.heap = h' → Ext h h' → own_A Z h' a' ty n f → Exa Z h' a' ad → Go p e below G kc ks Q T' (mkF m (pc + 3) Ls (.ref a' :: rest))) :
    Go p e below G kc ks Q T (mkF m pc Ls (.ref a :: rest)) := by
  obtain ⟨cl, Ar, hs, hn, H, G⟩ := A
  obtain ⟨T', h', X', e', E', A', EX, st⟩ := cloneA X hx hZ hown w1 w2 w3 w4 w5 w6 eT Ar E (own_fitC Ar H G) (g := mkF m pc Ls (.ref a :: rest)) rfl hsize rfl hd hf (W := W) (cap := cap) (by show 2 * 0 + _ ≤ _; omega) hl (by rw [hs, own_cl]; omega) hc hsl
  exact own_st st (k T' h' _ rfl X' e' E' ⟨_, A', hs, hn, H, G⟩ EX)
end OwnBytes
section OwnMore
variable {p : Program} {l : Launch} {e : Env} {R : Room} {s : State} {G : own_K} {m : MethodId} {args : Array Value} {below : List Frame} {meth : Method} {c : Code} {T T' : State} {locs : List Loc} {cells slots : Nat} {Z : State} {a0 : Array Value} {h : Heap} {kc ks : Nat} {Q : Option Value → Heap → List Loc → Prop}
theorem own_getD (f : Nat → Value) {N i : Nat} (d : Value) (q : i < N) : ((List.range N).map f).getD i d = f i := by
  simp [List.getD_eq_getElem?_getD, q]
theorem own_A.arv {h : Heap} {a : Addr} {ty : FieldType} {n : Int32} {f : Nat → Value} (F : own_A Z h a ty n f) (d : Value) : ∃ k, Arv Z h a k ty n ((List.range n.toInt.toNat).map f) d := by
  obtain ⟨cl, A, hs, h0, H, G⟩ := F
  refine ⟨cl.cls, cl, A, rfl, hs, own_nneg h0, fun i hi => ?_, fun i hi => ?_⟩
  · rw [H i hi, own_getD f d (by rw [hs, own_cl] at hi; exact hi)]
  · rw [own_getD f d (by rw [hs, own_cl] at hi; exact hi)]; exact G i hi
theorem own_A.of {h : Heap} {a : Addr} {k : ClassId} {ty : FieldType} {n : Int32} {vs : List Value} {d : Value} {f : Nat → Value} (F : Arv Z h a k ty n vs d) (h0 : 0 ≤ n.toInt) (q : ∀ i, i < n.toInt.toNat → vs.getD i d = f i) : own_A Z h a ty n f := by
  obtain ⟨cl, A, r1, hs, r3, H, G⟩ := F
  have t : ∀ i, i < cl.slots.size → vs.getD i d = f i := fun i hi => q i (by rw [hs, own_cl] at hi; exact hi)
  exact ⟨cl, A, hs, h0, fun i hi => by rw [← t i hi]; exact H i hi, fun i hi => by rw [← t i hi]; exact G i hi⟩
theorem own_splice (fb fa : Nat → Value) (N sp dp nn i : Nat) (d da : Value) (na : Nat) (hd : dp + nn ≤ N) (hs : sp + nn ≤ na) (hi : i < N) :
    (((List.range N).map fb).take dp ++ (List.range nn).map (fun j => ((List.range na).map fa).getD (sp + j) da) ++ ((List.range N).map fb).drop (dp + nn)).getD i d = if dp ≤ i ∧ i < dp + nn then fa (sp + (i - dp)) else fb i := by
  simp only [List.getD_eq_getElem?_getD, List.append_assoc]
  by_cases h1 : i < dp
  · rw [List.getElem?_append_left (by simp; omega), if_neg (by omega)]
    simp [List.getElem?_take, h1, hi]
  · rw [List.getElem?_append_right (by simp; omega)]
    simp only [List.length_take, List.length_map, List.length_range]
    have e1 : min dp N = dp := by omega
    rw [e1]
    by_cases h2 : i < dp + nn
    · rw [List.getElem?_append_left (by simp; omega), if_pos (by omega)]
      have h3 : i - dp < nn := by omega
      have h4 : sp + (i - dp) < na := by omega
      simp [h3, h4]
    · rw [List.getElem?_append_right (by simp; omega), if_neg (by omega)]
      simp only [List.length_map, List.length_range]
      rw [List.getElem?_drop]
      have e2 : dp + nn + (i - dp - nn) = i := by omega
      rw [e2]; simp [hi]
/-- System.arraycopy between arrays of one primitive kind -/
theorem own_copy (X : Stand p l e R s m args below meth c T locs cells slots) (hx : p.tables.exec = Jvm.exec) (hZ : Z.Warmed39 s.vm) {own : String} {index : Nat} (hown : s.vm.findClass own = some m.cls)
    (w1 : (Jvm.Cond.methodLink own index Jvm.Stand.acN).before a0 Z = true) (w2 : (Jvm.Cond.native Jvm.Stand.acN).before a0 Z = true) (w3 : (Jvm.Cond.static Jvm.Stand.acN).before a0 Z = true) (w4 : (Jvm.Cond.initialized "java/lang/System").before a0 Z = true) (eT : T.heap = h)
    {a b : Addr} {ty : FieldType} {na nb sp dp nn : Int32} {fa fb : Nat → Value} (A : own_A Z h a ty na fa) (B : own_A Z h b ty nb fb) (hty : refKind ty = false) (h1 : 0 ≤ sp.toInt) (h2 : 0 ≤ dp.toInt) (h3 : 0 ≤ nn.toInt) (h4 : sp.toInt + nn.toInt ≤ na.toInt) (h5 : dp.toInt + nn.toInt ≤ nb.toInt)
    {n0 : Nat} (N : Fr n0 locs) (ge : n0 ≤ b) {pc : Nat} {Ls : Array Slot} {rest : List Value} (hsize : Ls.size = c.maxLocals) (hd : decode c.code pc = .ok (.invokestatic index, 3)) (hf : 1 ≤ R.frames) {W : Nat} (hW : (rest.map fun v => v.category).sum ≤ W) (hlo : W + (nativeFrameWords "java/lang/System" "arraycopy" 5 + 11) ≤ R.locals)
    (k : ∀ (T' : State) (h' : Heap) (L : List Loc), Stand p l e R s m args below meth c T' L cells slots → T'.heap = h' → Fr n0 L → Keep h h' [b] → own_A Z h' b ty nb (fun i => if dp.toInt.toNat ≤ i ∧ i < dp.toInt.toNat + nn.toInt.toNat then fa (sp.toInt.toNat + (i - dp.toInt.toNat)) else fb i) → Go p e below G kc ks Q T' (mkF m (pc + 3) Ls rest)) :
    Go p e below G kc ks Q T (mkF m pc Ls (.int nn :: .int dp :: .ref b :: .int sp :: .ref a :: rest)) := by
  obtain ⟨ka, VA⟩ := A.arv (.int 0)
  obtain ⟨kb, VB⟩ := B.arv (.int 0)
  have hb0 : 0 ≤ nb.toInt := by obtain ⟨_, _, _, q, _⟩ := B; exact q
  obtain ⟨T', h', L, X', e', N', K', V', st⟩ := cpA X hx hZ hown w1 w2 w3 w4 eT VA VB (Or.inl ⟨rfl, hty⟩) (own_nneg h1) (own_nneg h2) (own_nneg h3) (by rw [own_cl, own_cl, own_cl]; omega) (by rw [own_cl, own_cl, own_cl]; omega) rfl (by rw [List.length_map, List.length_range, own_cl, own_cl]; omega) N ge (g := mkF m pc Ls (.int nn :: .int dp :: .ref b :: .int sp :: .ref a :: rest)) rfl hsize rfl hd hf (W := W) (by show 2 * 0 + _ ≤ _; omega) hlo
  exact own_st st (k T' h' L X' e' N' K' (own_A.of V' hb0 fun i hi => by
    rw [own_cl, own_cl, own_cl]
    exact own_splice fb fa _ _ _ _ i _ _ _ (by omega) (by omega) hi))
/-- the array at a takes arrays of class C -/
def own_OA (Z : State) (h : Heap) (a : Addr) (ty : FieldType) (C : String) : Prop := ∃ cl : Cell, h[a]? = some cl ∧ OvrA Z cl.cls ty C
theorem own_OA.ext {h h' : Heap} {a : Addr} {ty : FieldType} {C : String} (F : own_OA Z h a ty C) (E : Ext h h') : own_OA Z h' a ty C := by obtain ⟨c, A, r⟩ := F; exact ⟨c, E.2 _ _ A, r⟩
theorem own_OA.wr {h h' : Heap} {a b : Addr} {ty : FieldType} {C : String} {sl : Nat} {v : Value} (F : own_OA Z h a ty C) (W : Wr h h' b sl v) : own_OA Z h' a ty C := by
  obtain ⟨c, A, r⟩ := F
  obtain ⟨c', e1, e2, -⟩ := wr_at W A
  exact ⟨c', e1, by rw [e2]; exact r⟩
theorem own_OA.keep {h h' : Heap} {a : Addr} {ty : FieldType} {C : String} {ws : List Addr} (F : own_OA Z h a ty C) (K : Keep h h' ws) : own_OA Z h' a ty C := by
  obtain ⟨c, A, r⟩ := F
  obtain ⟨c', e1, e2, -⟩ := K.2.2 _ _ A
  exact ⟨c', e1, by rw [e2]; exact r⟩
theorem own_newarrA (X : Stand p l e R s m args below meth c T locs cells slots) (hx : p.tables.exec = Jvm.exec) (hZ : Z.Warmed39 s.vm) {own C : String} {ty : FieldType} {index : Nat} (hown : s.vm.findClass own = some m.cls) (hC : (FieldType.array ty).toString = C) (w1 : (Jvm.Cond.classLink own index C).before a0 Z = true) (w2 : (Jvm.Cond.arrayOver (.array ty)).before a0 Z = true) (eT : T.heap = h) {pc : Nat} {Ls : Array Slot} (hd : decode c.code pc = .ok (.anewarray index, 3)) {n : Int32} {rest : List Value}
    (hn : 0 ≤ n.toInt) {cap : Nat} (hcap : n.toInt ≤ cap) (hb : cap * 8 ≤ 536870912) (hc : cells + 1 ≤ R.cells) (hl : slots + cap ≤ R.slots)
    (k : ∀ (T' : State) (h' : Heap) (a : Addr), a = h.size → Stand p l e R s m args below meth c T' locs (cells + 1) (slots + cap) → T'.heap = h' → Ext h h' → own_A Z h' a (.array ty) n (fun _ => .null) → own_OA Z h' a ty C → Go p e below G kc ks Q T' (mkF m (pc + 3) Ls (.ref a :: rest))) :
    Go p e below G kc ks Q T (mkF m pc Ls (.int n :: rest)) := by
  obtain ⟨T', h', cA, X', e', E', A', EX, O', st⟩ := newRA X hx hZ hown hC w1 w2 eT (g := mkF m pc Ls (.int n :: rest)) rfl hd rfl (own_nneg hn) (cap := cap) (by rw [own_cl]; omega) hb hc hl rfl
  exact own_st st (k T' h' _ rfl X' e' E' (own_A.new A' hn rfl) ⟨_, A'.1, O'⟩)
theorem own_aastoreA (X : Stand p l e R s m args below meth c T locs cells slots) (hx : p.tables.exec = Jvm.exec) (hZ : Z.Warmed39 s.vm) (eT : T.heap = h) {a y : Addr} {n j : Int32} {f : Nat → Value} {ty : FieldType} {C : String} (A : own_A Z h a (.array ty) n f) (O : own_OA Z h a ty C) (I : Ins Z h y C true) (h0 : 0 ≤ j.toInt) (h1 : j.toInt < n.toInt) {pc : Nat} {Ls : Array Slot} {rest : List Value} (hd : decode c.code pc = .ok (.aastore, 1))
    (k : ∀ (T' : State) (h' : Heap), Stand p l e R s m args below meth c T' (locs ++ [⟨a, j.toNatClampNeg⟩]) cells slots → T'.heap = h' → Wr h h' a j.toNatClampNeg (.ref y) → own_A Z h' a (.array ty) n (fun i => if i = j.toInt.toNat then .ref y else f i) → Go p e below G kc ks Q T' (mkF m (pc + 1) Ls rest)) : Go p e below G kc ks Q T (mkF m pc Ls (.ref y :: .int j :: .ref a :: rest)) := by
  obtain ⟨cl, Ar, hs, hn, H, G⟩ := A
  obtain ⟨cl', o1, o2⟩ := O
  cases Ar.1.symm.trans o1
  obtain ⟨T', h', X', e', W', st⟩ := stR X hx hZ eT Ar (j := j) (v := .ref y) (own_in hs h0 h1) rfl (Sto.ofVA Ar rfl o2 I) (g := mkF m pc Ls (.ref y :: .int j :: .ref a :: rest)) rfl rfl hd
  exact own_st st (k T' h' X' e' W' (own_A.set Ar hs hn H G rfl W' (own_ilt hs h0 h1)))
theorem own_neT {h : Heap} {a b : Addr} {ty ty' : FieldType} {n n' : Int32} {f f' : Nat → Value} (A : own_A Z h a ty n f) (B : own_A Z h b ty' n' f') (hn : ty ≠ ty') : a ≠ b := fun q => by
  subst q
  obtain ⟨cl, A, -⟩ := A
  obtain ⟨cl', B, -⟩ := B
  cases A.1.symm.trans B.1
  obtain ⟨-, k, a1, comp, a2⟩ := A.2.1
  obtain ⟨-, k', b1, comp', b2⟩ := B.2.1
  cases a1.symm.trans b1
  rw [a2] at b2
  cases b2
  exact hn rfl
theorem own_neE {h : Heap} {a b : Addr} {ty : FieldType} {n : Int32} {f : Nat → Value} {C : String} {k : Nat} (E : Exa Z h a C) (wi : (Jvm.Cond.instantiable C k).before a0 Z = true) (B : own_A Z h b ty n f) : a ≠ b := by
  obtain ⟨cl, B, -⟩ := B
  exact ne_arr E wi B
/-- an own private method by its contract -/
theorem own_callP (X : Stand p l e R s m args below meth c T locs cells slots) (hx : p.tables.exec = Jvm.exec) (hZ : Z.Warmed39 s.vm) {own C : String} {index kk : Nat} {y : MethodName} {bytes : ByteArray} {maxL : Nat} {ret : Option FieldType} (hown : s.vm.findClass own = some m.cls)
    (w1 : (Jvm.Cond.methodLink own index y).before a0 Z = true) (w2 : (Jvm.Cond.instanceMethod y).before a0 Z = true) (w3 : (Jvm.Cond.privateMethod y).before a0 Z = true) (w4 : (Jvm.Cond.instantiable y.cls kk).before a0 Z = true) (w5 : (Jvm.Cond.initialized y.cls).before a0 Z = true) (w6 : (Jvm.Cond.code y bytes maxL ret).before a0 Z = true) (hy : y.cls ≠ "java/lang/invoke/MethodHandle" ∧ y.cls ≠ "java/lang/invoke/VarHandle")
    {rm : Room} {Q' : Option Value → Heap → List Loc → Prop} {a : Addr} {argsL rest stk : List Value} {pc W : Nat} {Ls : Array Slot}
    (hM : MetFree l y (head1 [Jvm.Cond.code y bytes maxL ret] rm) (fun a' U => a' = (.ref a :: argsL).toArray ∧ Z.Warmed39 U.vm ∧ U.heap = h) (fun _ _ _ _ _ => True) (fun _ U o U' => ∃ v L, o = .returned v ∧ Q' v U'.heap L ∧ FrameEnd U o U' L rm.cells rm.slots))
    (eT : T.heap = h) (E : Exa Z h a C) (hsize : Ls.size = c.maxLocals) (hlen : ∀ sig, parseMethodDescriptor y.desc = some sig → argsL.length = sig.parameters.length) (hst : stk = argsL.reverse ++ .ref a :: rest) (hW : (rest.map fun v => v.category).sum ≤ W) (hd : decode c.code pc = .ok (.invokevirtual index, 3))
    (hf : rm.frames + 1 ≤ R.frames) (hl : W + (maxL + 11) + rm.locals ≤ R.locals) (hc : cells + rm.cells ≤ R.cells) (hs : slots + rm.slots ≤ R.slots)
    (k : ∀ (v : Option Value) (T' : State) (L : List Loc), Stand p l e R s m args below meth c T' (locs ++ L) (cells + rm.cells) (slots + rm.slots) → Q' v T'.heap L → Go p e below G kc ks Q T' (mkF m (pc + 3) Ls (v.toList ++ rest))) :
    Go p e below G kc ks Q T (mkF m pc Ls stk) := by
  subst hst
  obtain ⟨cq, q1, q2⟩ := E.cell
  obtain ⟨cK, kK, i1, i2, i3, i4, -⟩ := Cond.instantiable_spec (mvT (args := args) hZ w4)
  have hpriv := Cond.privateMethod_at (mvP (args := #[]) hZ w3)
  have hsel := selects_self_of_private (args := args) i1 i2 (by simpa using (Bool.or_eq_false_iff.mp i4).1) hpriv (mvT hZ w2) hy
  obtain ⟨v, _, ⟨T1, L1, k1, n1⟩, -, X1, ⟨Lc, hQ, l1, y1, z1⟩, st⟩ := X.privateBack hx (y := y) hown (mvT hZ w1) (mvT hZ w2) hsel hpriv (mvT hZ w6) hy (backOf (W := W) hM hZ w6 w5 hf hl) (g := mkF m pc Ls (argsL.reverse ++ .ref a :: rest)) rfl hsize (Steps.refl _) (a := a) (by rw [eT]; exact q1) q2 (argsL := argsL) (rest := rest) hlen rfl (by show 2 * 0 + _ ≤ _; omega) hd (fun _ _ => ⟨rfl, eT, hc, hs⟩)
  dsimp only [Pt.U, Pt.locs, Pt.cells, Pt.slots] at X1 l1 y1 z1 st hQ
  subst l1 y1 z1
  exact own_tr st (k v T1 Lc X1 hQ)
/-- all that lies below u stands as it stood -/
def own_Lo (h h' : Heap) (u : Addr) : Prop := h.size ≤ h'.size ∧ ∀ (x : Addr) (c : Cell), h[x]? = some c → x < u → h'[x]? = some c
section
variable {h h' h'' : Heap} {u a : Addr} {sl : Nat} {v : Value} {ws : List Addr}
theorem own_Lo.refl (h : Heap) (u : Addr) : own_Lo h h u := ⟨Nat.le_refl _, fun _ _ q _ => q⟩
theorem own_Lo.ext (F : own_Lo h h' u) (E : Ext h' h'') : own_Lo h h'' u := ⟨Nat.le_trans F.1 E.1, fun x c q r => E.2 _ _ (F.2 x c q r)⟩
theorem own_Lo.wr (F : own_Lo h h' u) (W : Wr h' h'' a sl v) (q : u ≤ a) : own_Lo h h'' u := by
  refine ⟨Nat.le_trans F.1 (Nat.le_of_eq W.size.symm), fun x c r z => ?_⟩
  obtain ⟨c', e1, -, -, -, e5, -⟩ := wr_at W (F.2 x c r z)
  rw [e1, e5 (fun y => by subst y; exact absurd z (Nat.not_lt.mpr q))]
theorem own_Lo.keep (F : own_Lo h h' u) (K : Keep h' h'' ws) (q : ∀ x ∈ ws, u ≤ x) : own_Lo h h'' u :=
  ⟨Nat.le_trans F.1 K.1, fun x c r z => K.2.1 x c (F.2 x c r z) (fun y => absurd z (Nat.not_lt.mpr (q x y)))⟩
theorem own_Lo.trans (F : own_Lo h h' u) (G : own_Lo h' h'' u) : own_Lo h h'' u := ⟨Nat.le_trans F.1 G.1, fun x c r z => G.2 x c (F.2 x c r z) z⟩
theorem own_A.lo {ty : FieldType} {n : Int32} {f : Nat → Value} (F : own_A Z h a ty n f) (G : own_Lo h h' u) (q : a < u) : own_A Z h' a ty n f := by obtain ⟨c, A, r⟩ := F; exact ⟨c, ⟨G.2 _ _ A.1 q, A.2⟩, r⟩
end
theorem own_skA {h h' : Heap} {a : Addr} {C n d : String} {v : Value} {ty : FieldType} {k : Int32} {f : Nat → Value} (F : Sta Z h C n d v) (K : Keep h h' [a]) (A : own_A Z h a ty k f) : Sta Z h' C n d v := by
  obtain ⟨cf, i, k, fl, st, cell, h1, h2, h3, h4, h5, h6, h7⟩ := F
  obtain ⟨cl, A, -⟩ := A
  have ne : st ≠ a := fun q => by
    subst q
    cases h5.symm.trans A.1
    rw [A.plain] at h6; cases h6
  exact ⟨cf, i, k, fl, st, cell, h1, h2, h3, h4, K.2.1 _ _ h5 (ninS ne nin0), h6, h7⟩
end OwnMore
section OwnCold
variable {p : Program} {l : Launch} {e : Env} {R : Room} {s : State} {m : MethodId} {args : Array Value} {below : List Frame} {meth : Method} {c : Code} {T T' : State} {locs : List Loc} {cells slots : Nat} {Z : State} {a0 : Array Value} {h : Heap} {kc ks : Nat} {Q : Option Value → Heap → List Loc → Prop} {G : own_K} {EL : List (String × Nat)} {vm0 : Vm} {k0 : Nat}
theorem own_metC {y : MethodName} {bytes : ByteArray} {maxL : Nat} {ret : Option FieldType} {ws : List Jvm.Cond} {rm : Room} {as' : Array Value} {Ls : Array Slot} {h0 : Heap} (hn : plainFor y = true) (hef : ∀ m : MethodId, entryFrame m as' maxL = mkF m 0 Ls [])
    (body : ∀ (p : Program) (e : Env) (s : State) (m : MethodId) (below : List Frame) (meth : Method) (c : Code) (s₁ : State), p.tables.exec = Jvm.exec → c.code = bytes → c.maxLocals = maxL → meth.sig.returnType = ret → meth.locks = false → Z.Warmed39 s.vm → s.vm.findClass y.cls = some m.cls → meth.name = y.name →
      Stand p l e rm (s.setVm s.vm) m as' below meth c s₁ [] 0 0 → s₁.heap = h0 → s.Since s.vm h0.size → CHr Z EL s.vm s.heap s.vm h0 → Go p e below (.cold Z EL s) rm.cells rm.slots Q s₁ (mkF m 0 Ls [])) :
    MetFree l y (head1 (Jvm.Cond.code y bytes maxL ret :: ws) rm) (fun a U => a = as' ∧ Z.Warmed39 U.vm ∧ U.heap = h0 ∧ CHv Z EL U.vm h0) (fun _ _ _ _ _ => True) (fun _ U o U' => ∃ v L, o = .returned v ∧ Q v U'.heap L ∧ CHr Z EL U.vm U.heap U'.vm U'.heap ∧ ReturnedEndW U o U' L rm.cells rm.slots) := by
  refine MetFree.of_bodySF hn hisR ?_
  intro p e s m args below meth c s₁ Bd hml0 hP hK
  obtain ⟨rfl, hZ, hh, hC⟩ := hP
  have hg := body p e s m below meth c s₁ Bd.exec Bd.bytes hml0 Bd.returns Bd.notSynchronized hZ (findClass_of_methodNamed Bd.named) (name_of_methodNamed Bd.named Bd.method).1 (Stand.of_body Bd) (by rw [← hh, Bd.state]; rfl)
    ⟨State.Warmed39.refl s, fun j q h1 h2 => absurd (Array.getElem?_eq_some_iff.mp h2).1 (Nat.not_lt.mpr h1)⟩ (by rw [hh]; exact CHr.refl hC)
  unfold Go at hg
  rw [← hef m] at hg
  exact hg
theorem own_retC (X : Stand p l e R (s.setVm vm0) m args below meth c T locs cells slots) (hx : p.tables.exec = Jvm.exec) (hlk : meth.locks = false) (hZ : Z.Warmed39 vm0) (hS : s.Since vm0 k0) (hk : k0 ≤ h.size) (hEL : EW Z a0 EL) (r : CHr Z EL s.vm s.heap vm0 h) (eT : T.heap = h) {pc : Nat} {Ls : Array Slot} {w : Value} {t : FieldType} {i : Instr} {rest : List Value} (hret : meth.sig.returnType = some t) (hn : narrow t w = w)
    (hi : (i = .ireturn ∧ (t = .int ∨ t = .boolean ∨ t = .byte ∨ t = .char ∨ t = .short) ∧ ∃ z, w = .int z) ∨ (i = .lreturn ∧ t = .long ∧ ∃ z, w = .long z) ∨ (i = .dreturn ∧ t = .double ∧ ∃ z, w = .double z) ∨ (i = .freturn ∧ t = .float ∧ ∃ z, w = .float z) ∨ (i = .areturn ∧ t.isReference = true ∧ w.isRef = true))
    (hd : decode c.code pc = .ok (i, 1)) (hc : cells ≤ kc) (hs : slots ≤ ks) (hq : Q (some w) T.heap locs) : Go p e below (.cold Z EL s) kc ks Q T (mkF m pc Ls (w :: rest)) := by
  subst eT
  have hC := r.trans (CHv.at X hZ hEL r.1)
  obtain ⟨fs, hr, hrun, hended, h1, h2, h3, h4⟩ := X.leaveW hS hk (v := some w) (fun h => by rw [hret] at h; cases h) hlk
  exact ⟨_, _, retOut X hx hret hn hi hd hr, hrun, hended, _, _, rfl, hq, hC, ⟨_, rfl⟩, h2, h3, h4.mono hc hs⟩
theorem own_retVC (X : Stand p l e R (s.setVm vm0) m args below meth c T locs cells slots) (hx : p.tables.exec = Jvm.exec) (hlk : meth.locks = false) (hZ : Z.Warmed39 vm0) (hS : s.Since vm0 k0) (hk : k0 ≤ h.size) (hEL : EW Z a0 EL) (r : CHr Z EL s.vm s.heap vm0 h) (eT : T.heap = h) {pc : Nat} {Ls : Array Slot} (hret : meth.sig.returnType = none)
    (hd : decode c.code pc = .ok (.return_, 1)) (hc : cells ≤ kc) (hs : slots ≤ ks) (hq : Q none T.heap locs) : Go p e below (.cold Z EL s) kc ks Q T (mkF m pc Ls []) := by
  subst eT
  have hC := r.trans (CHv.at X hZ hEL r.1)
  obtain ⟨fs, hr, hrun, hended, h1, h2, h3, h4⟩ := X.leaveW hS hk (v := none) (fun _ => rfl) hlk
  exact ⟨_, _, X.returnOut hx hret hd hr, hrun, hended, _, _, rfl, hq, hC, ⟨_, rfl⟩, h2, h3, h4.mono hc hs⟩
theorem own_callSC (X : Stand p l e R (s.setVm vm0) m args below meth c T locs cells slots) (hx : p.tables.exec = Jvm.exec) (hZ : Z.Warmed39 vm0) (hS : s.Since vm0 k0) (hk : k0 ≤ h.size) (hEL : EW Z a0 EL) (r : CHr Z EL s.vm s.heap vm0 h) {own : String} {index : Nat} {y : MethodName} {bytes : ByteArray} {maxL : Nat} {ret : Option FieldType} (hown : vm0.findClass own = some m.cls)
    (w1 : (Jvm.Cond.methodLink own index y).before a0 Z = true) (w2 : (Jvm.Cond.static y).before a0 Z = true) (w3 : (Jvm.Cond.initialized y.cls).before a0 Z = true) (w4 : (Jvm.Cond.code y bytes maxL ret).before a0 Z = true) (hy : y.cls ≠ "java/lang/invoke/MethodHandle" ∧ y.cls ≠ "java/lang/invoke/VarHandle")
    {rm : Room} {Q' : Option Value → Heap → List Loc → Prop} {argsL rest stk : List Value} {pc W : Nat} {Ls : Array Slot}
    (hM : MetFree l y (head1 [Jvm.Cond.code y bytes maxL ret] rm) (fun a U => a = argsL.toArray ∧ Z.Warmed39 U.vm ∧ U.heap = h ∧ CHv Z EL U.vm h) (fun _ _ _ _ _ => True) (fun _ U o U' => ∃ v L, o = .returned v ∧ Q' v U'.heap L ∧ CHr Z EL U.vm U.heap U'.vm U'.heap ∧ ReturnedEndW U o U' L rm.cells rm.slots))
    (eT : T.heap = h) (hsize : Ls.size = c.maxLocals) (hlen : ∀ sig, parseMethodDescriptor y.desc = some sig → argsL.length = sig.parameters.length) (hst : stk = argsL.reverse ++ rest) (hW : (rest.map fun v => v.category).sum ≤ W) (hd : decode c.code pc = .ok (.invokestatic index, 3))
    (hf : rm.frames + 1 ≤ R.frames) (hl : W + (maxL + 11) + rm.locals ≤ R.locals) (hc : cells + rm.cells ≤ R.cells) (hs : slots + rm.slots ≤ R.slots)
    (k : ∀ (v : Option Value) (T' : State) (L : List Loc) (vm1 : Vm), Stand p l e R (s.setVm vm1) m args below meth c T' (locs ++ L) (cells + rm.cells) (slots + rm.slots) → Q' v T'.heap L → Z.Warmed39 vm1 → vm1.findClass own = some m.cls → s.Since vm1 T'.heap.size → CHr Z EL vm0 h vm1 T'.heap → CHr Z EL s.vm s.heap vm1 T'.heap → Go p e below G kc ks Q T' (mkF m (pc + 3) Ls (v.toList ++ rest))) :
    Go p e below G kc ks Q T (mkF m pc Ls stk) := by
  subst hst
  obtain ⟨v, _, ⟨T1, L1, k1, n1⟩, -, X1, hS1, hgr, ⟨Lc, hQ, l1, y1, z1, hC⟩, st⟩ := callSS X hx (y := y) hown (mvT (s := s.setVm vm0) hZ w1) (mvT (s := s.setVm vm0) hZ w2) (mvT (s := s.setVm vm0) hZ w3) (mvT (s := s.setVm vm0) hZ w4) hy (backOfSH (W := W) hM hZ w4 w3 hf hl hEL r.1) (g := mkF m pc Ls (argsL.reverse ++ rest)) rfl hsize (argsL := argsL) (rest := rest) hlen rfl (by show 2 * 0 + _ ≤ _; omega) hd (fun _ _ => ⟨rfl, eT, hc, hs⟩)
  dsimp only [Pt.U, Pt.locs, Pt.cells, Pt.slots] at X1 l1 y1 z1 st hQ hC hS1 hgr
  subst l1 y1 z1
  subst eT
  exact own_tr st (k v T1 Lc T1.vm X1 hQ (State.Warmed39.trans (t := s.setVm vm0) hZ hS1.1) (by rw [hS1.1.alike.findClass]; exact hown) (hS.trans hS1 (Nat.le_trans hk hgr)) hC (r.trans hC))
theorem own_callNC (X : Stand p l e R (s.setVm vm0) m args below meth c T locs cells slots) (hx : p.tables.exec = Jvm.exec) (hZ : Z.Warmed39 vm0) (hS : s.Since vm0 k0) (hk : k0 ≤ h.size) (hEL : EW Z a0 EL) (r : CHr Z EL s.vm s.heap vm0 h) {own : String} {index : Nat} {y : MethodName} {bytes : ByteArray} {maxL : Nat} (hown : vm0.findClass own = some m.cls) (hy1 : y.name = "<init>")
    (w1 : (Jvm.Cond.methodLink own index y).before a0 Z = true) (w2 : (Jvm.Cond.instanceMethod y).before a0 Z = true) (w3 : (Jvm.Cond.initialized y.cls).before a0 Z = true) (w4 : (Jvm.Cond.code y bytes maxL none).before a0 Z = true) (hy : y.cls ≠ "java/lang/invoke/MethodHandle" ∧ y.cls ≠ "java/lang/invoke/VarHandle")
    {rm : Room} {Q' : Option Value → Heap → List Loc → Prop} {a : Addr} {argsL rest stk : List Value} {pc W : Nat} {Ls : Array Slot}
    (hM : MetFree l y (head1 [Jvm.Cond.code y bytes maxL none] rm) (fun a' U => a' = (.ref a :: argsL).toArray ∧ Z.Warmed39 U.vm ∧ U.heap = h ∧ CHv Z EL U.vm h) (fun _ _ _ _ _ => True) (fun _ U o U' => ∃ v L, o = .returned v ∧ Q' v U'.heap L ∧ CHr Z EL U.vm U.heap U'.vm U'.heap ∧ ReturnedEndW U o U' L rm.cells rm.slots))
    (eT : T.heap = h) (hsize : Ls.size = c.maxLocals) (hlen : ∀ sig, parseMethodDescriptor y.desc = some sig → argsL.length = sig.parameters.length) (hst : stk = argsL.reverse ++ .ref a :: rest) (hW : (rest.map fun v => v.category).sum ≤ W) (hd : decode c.code pc = .ok (.invokespecial index, 3))
    (hf : rm.frames + 1 ≤ R.frames) (hl : W + (maxL + 11) + rm.locals ≤ R.locals) (hc : cells + rm.cells ≤ R.cells) (hs : slots + rm.slots ≤ R.slots)
    (k : ∀ (v : Option Value) (T' : State) (L : List Loc) (vm1 : Vm), Stand p l e R (s.setVm vm1) m args below meth c T' (locs ++ L) (cells + rm.cells) (slots + rm.slots) → Q' v T'.heap L → Z.Warmed39 vm1 → vm1.findClass own = some m.cls → s.Since vm1 T'.heap.size → CHr Z EL vm0 h vm1 T'.heap → CHr Z EL s.vm s.heap vm1 T'.heap → Go p e below G kc ks Q T' (mkF m (pc + 3) Ls (v.toList ++ rest))) :
    Go p e below G kc ks Q T (mkF m pc Ls stk) := by
  subst hst
  obtain ⟨v, _, ⟨T1, L1, k1, n1⟩, -, X1, hS1, hgr, ⟨Lc, hQ, l1, y1, z1, hC⟩, st⟩ := X.specialBackS hx (y := y) hy1 hown (mvT (s := s.setVm vm0) hZ w1) (mvT (s := s.setVm vm0) hZ w2) (mvT (s := s.setVm vm0) hZ w4) hy (backOfSH (W := W) hM hZ w4 w3 hf hl hEL r.1) (g := mkF m pc Ls (argsL.reverse ++ .ref a :: rest)) rfl hsize (Steps.refl _) (a := a) (argsL := argsL) (rest := rest) hlen rfl (by show 2 * 0 + _ ≤ _; omega) hd (fun _ _ => ⟨rfl, eT, hc, hs⟩)
  dsimp only [Pt.U, Pt.locs, Pt.cells, Pt.slots] at X1 l1 y1 z1 st hQ hC hS1 hgr
  subst l1 y1 z1
  subst eT
  exact own_tr st (k v T1 Lc T1.vm X1 hQ (State.Warmed39.trans (t := s.setVm vm0) hZ hS1.1) (by rw [hS1.1.alike.findClass]; exact hown) (hS.trans hS1 (Nat.le_trans hk hgr)) hC (r.trans hC))
theorem own_callVC (X : Stand p l e R (s.setVm vm0) m args below meth c T locs cells slots) (hx : p.tables.exec = Jvm.exec) (hZ : Z.Warmed39 vm0) (hS : s.Since vm0 k0) (hk : k0 ≤ h.size) (hEL : EW Z a0 EL) (r : CHr Z EL s.vm s.heap vm0 h) {own C : String} {index : Nat} {y z : MethodName} {bytes : ByteArray} {maxL : Nat} {ret : Option FieldType} (hown : vm0.findClass own = some m.cls)
    (w1 : (Jvm.Cond.methodLink own index y).before a0 Z = true) (w2 : (Jvm.Cond.declares y).before a0 Z = true) (hnf : NotFace (s.setVm vm0) y) (w3 : (Jvm.Cond.selects C y z).before a0 Z = true) (w4 : (Jvm.Cond.instanceMethod z).before a0 Z = true) (w5 : (Jvm.Cond.initialized z.cls).before a0 Z = true) (w6 : (Jvm.Cond.code z bytes maxL ret).before a0 Z = true) (hy : y.cls ≠ "java/lang/invoke/MethodHandle" ∧ y.cls ≠ "java/lang/invoke/VarHandle")
    {rm : Room} {Q' : Option Value → Heap → List Loc → Prop} {a : Addr} {argsL rest stk : List Value} {pc W : Nat} {Ls : Array Slot}
    (hM : MetFree l z (head1 [Jvm.Cond.code z bytes maxL ret] rm) (fun a' U => a' = (.ref a :: argsL).toArray ∧ Z.Warmed39 U.vm ∧ U.heap = h ∧ CHv Z EL U.vm h) (fun _ _ _ _ _ => True) (fun _ U o U' => ∃ v L, o = .returned v ∧ Q' v U'.heap L ∧ CHr Z EL U.vm U.heap U'.vm U'.heap ∧ ReturnedEndW U o U' L rm.cells rm.slots))
    (eT : T.heap = h) (E : Exa Z h a C) (hsize : Ls.size = c.maxLocals) (hlen : ∀ sig, parseMethodDescriptor y.desc = some sig → argsL.length = sig.parameters.length) (hst : stk = argsL.reverse ++ .ref a :: rest) (hW : (rest.map fun v => v.category).sum ≤ W) (hd : decode c.code pc = .ok (.invokevirtual index, 3))
    (hf : rm.frames + 1 ≤ R.frames) (hl : W + (maxL + 11) + rm.locals ≤ R.locals) (hc : cells + rm.cells ≤ R.cells) (hs : slots + rm.slots ≤ R.slots)
    (k : ∀ (v : Option Value) (T' : State) (L : List Loc) (vm1 : Vm), Stand p l e R (s.setVm vm1) m args below meth c T' (locs ++ L) (cells + rm.cells) (slots + rm.slots) → Q' v T'.heap L → Z.Warmed39 vm1 → vm1.findClass own = some m.cls → s.Since vm1 T'.heap.size → CHr Z EL vm0 h vm1 T'.heap → CHr Z EL s.vm s.heap vm1 T'.heap → Go p e below G kc ks Q T' (mkF m (pc + 3) Ls (v.toList ++ rest))) :
    Go p e below G kc ks Q T (mkF m pc Ls stk) := by
  subst hst
  obtain ⟨cq, kq, qa, qb, qc⟩ := isOf (s := s.setVm vm0) hZ eT E
  obtain ⟨v, _, ⟨T1, L1, k1, n1⟩, -, X1, hS1, hgr, ⟨Lc, hQ, l1, y1, z1, hC⟩, st⟩ := X.virtualBackS hx (y := y) (z := z) hown (mvT (s := s.setVm vm0) hZ w1) (mvT (s := s.setVm vm0) hZ w2) hnf (mvT (s := s.setVm vm0) hZ w3) (mvT (s := s.setVm vm0) hZ w4) hy (backOfSH (W := W) hM hZ w6 w5 hf hl hEL r.1) qa qc (g := mkF m pc Ls (argsL.reverse ++ .ref a :: rest)) rfl hsize (Steps.refl _) (argsL := argsL) (rest := rest) hlen rfl (by show 2 * 0 + _ ≤ _; omega) hd (fun _ _ => ⟨rfl, eT, hc, hs⟩)
  dsimp only [Pt.U, Pt.locs, Pt.cells, Pt.slots] at X1 l1 y1 z1 st hQ hC hS1 hgr
  subst l1 y1 z1
  subst eT
  exact own_tr st (k v T1 Lc T1.vm X1 hQ (State.Warmed39.trans (t := s.setVm vm0) hZ hS1.1) (by rw [hS1.1.alike.findClass]; exact hown) (hS.trans hS1 (Nat.le_trans hk hgr)) hC (r.trans hC))
/-- ldc "" -/
theorem own_ldcE (X : Stand p l e R (s.setVm vm0) m args below meth c T locs cells slots) (hx : p.tables.exec = Jvm.exec) (hZ : Z.Warmed39 vm0) (hS : s.Since vm0 k0) (hk : k0 ≤ h.size) (hEL : EW Z a0 EL) (r : CHr Z EL s.vm s.heap vm0 h) {own : String} {index : Nat} (hown : vm0.findClass own = some m.cls) (w : (Jvm.Cond.stringLink own index "").before a0 Z = true) (wS : ∀ a ∈ Bundle.stringAtoms, a.before a0 Z = true) (hmem : (own, index) ∈ EL)
    (eT : T.heap = h) {pc : Nat} {Ls : Array Slot} {rest : List Value} (hd : decode c.code pc = .ok (.ldc index, 2)) (hc : cells + 2 ≤ R.cells) (hl : slots + 4 ≤ R.slots)
    (k : ∀ (T' : State) (h' : Heap) (vm1 : Vm) (a b : Addr), Stand p l e R (s.setVm vm1) m args below meth c T' locs (cells + 2) (slots + 4) → T'.heap = h' → Ext h h' → Z.Warmed39 vm1 → vm1.findClass own = some m.cls → s.Since vm1 h'.size → CHr Z EL vm0 h vm1 h' → CHr Z EL s.vm s.heap vm1 h' →
      Exa Z h' a "java/lang/String" → Fld Z h' a "java/lang/String" "coder" "B" (.int 0) → Fld Z h' a "java/lang/String" "value" "[B" (.ref b) → own_A Z h' b .byte 0 (fun _ => .int 0) → Lit (s.setVm vm1) own index a → (∀ x, Safe Z EL vm1 h' x → x ≠ a ∧ x ≠ b) → Go p e below G kc ks Q T' (mkF m (pc + 2) Ls (.ref a :: rest))) :
    Go p e below G kc ks Q T (mkF m pc Ls rest) := by
  obtain ⟨a, T', h', k1, b, kk, X', e', E', hS', hk', hZ', hown', x1, x2, x3, x4, -, -, hC, hL, hne, st⟩ := ldcCH X hx hZ hown w wS eT hS hk hEL hmem r.1 (vs := []) (z := 0) ⟨by simp, rfl⟩ (by decide) rfl (g := mkF m pc Ls rest) rfl hd (n := 0) (by decide) (by decide) hc hl
  obtain ⟨cl, A, -, A2, A3, A4, A5⟩ := x4
  refine own_st st (k T' h' T'.vm a b X' e' E' hZ' hown' ⟨hS'.1, fun j q h1 h2 => ?_⟩ hC (r.trans hC) x1 x2 x3 ⟨cl, A, A2, by decide, fun i hi => A4 i hi, fun i hi => A5 i hi⟩ hL hne)
  have := hS'.2 j q h1 h2
  exact ⟨this.1, Nat.lt_of_lt_of_le this.2 hk'⟩
theorem own_ldcA (X : Stand p l e R (s.setVm vm0) m args below meth c T locs cells slots) (hx : p.tables.exec = Jvm.exec) (hZ : Z.Warmed39 vm0) {own text : String} {index : Nat} (hown : vm0.findClass own = some m.cls) (w : (Jvm.Cond.stringLink own index text).before a0 Z = true) {a : Addr} (L : Lit (s.setVm vm0) own index a) {pc : Nat} {Ls : Array Slot} {rest : List Value} (hd : decode c.code pc = .ok (.ldc index, 2))
    (k : Go p e below G kc ks Q T (mkF m (pc + 2) Ls (.ref a :: rest))) : Go p e below G kc ks Q T (mkF m pc Ls rest) :=
  own_st (ldcAgain X hx hZ hown w L (g := mkF m pc Ls rest) rfl hd) k
theorem own_safeA {vm : Vm} {x : Addr} {ty : FieldType} {n : Int32} {f : Nat → Value} (hZ : Z.Warmed39 vm) (A : own_A Z h x ty n f) (ht : ty ≠ .byte) : Safe Z EL vm h x := by
  obtain ⟨cl, Ar, -⟩ := A
  exact Safe.arr hZ.alike Ar ht
/-- a String without an array is no booked one -/
theorem own_safeN {vm : Vm} {x : Addr} (hZ : Z.Warmed39 vm) (E : Exa Z h x "java/lang/String") (F : Fld Z h x "java/lang/String" "value" "[B" .null) : Safe Z EL vm h x := fun B => by
  obtain ⟨cell, k, e1, e2, e3, e4, e5⟩ := E
  obtain ⟨cell', cf, kf, i, f, f1, f2, f3, f4, f5, f6, f7⟩ := F
  cases e1.symm.trans f1
  obtain ⟨q, -, u, a, -, q, -, S, rfl | rfl⟩ := B
  · cases (show h[q.sa]? = some q.sC from S.ha).symm.trans e1
    obtain ⟨cS, ⟨⟨-, -, -, ⟨c1, k1, i1, g1, -⟩, -, -, -, v1, -⟩, -⟩, -⟩ := S
    obtain ⟨k3, g3, -⟩ := State.fieldFound?_setVm (s := Z) hZ.alike f2
    have e4 := (show (Wst Z vm h).fieldFound? "java/lang/String" "value" "[B" = _ from g3).symm.trans g1
    simp only [Option.some.injEq, Prod.mk.injEq] at e4
    rw [← e4.2.2.2, f7] at v1
    cases v1
  · cases (show h[q.sd]? = some q.SA from S.hd).symm.trans e1
    obtain ⟨cS, -, -, g, -⟩ := S
    have g : vm.findClass "[B" = some q.SA.cls := g
    rw [hZ.alike.findClass] at g
    obtain ⟨k1, q1, q2⟩ := Vm.findClass_spec g
    obtain ⟨k2, q3, q4⟩ := Vm.findClass_spec e2
    cases q1.symm.trans q3
    have := q2.symm.trans q4
    exact absurd this (by decide)
end OwnCold
def own_EL : List (String × Nat) := [("java/lang/String", 7), ("java/lang/StringLatin1", 151)]
theorem own_ew {Z : State} {a0 : Array Value} (hw : ∀ d ∈ tables_1, d.before a0 Z = true) : EW Z a0 own_EL := (EW.cons (hw _ (List.mem_of_getElem? (i := 22) rfl)) (by simp) (EW.cons (hw _ (List.mem_of_getElem? (i := 181) rfl)) (by simp) EW.nil))
theorem own_wS {Z : State} {a0 : Array Value} (hw : ∀ d ∈ tables_1, d.before a0 Z = true) : ∀ a ∈ Bundle.stringAtoms, a.before a0 Z = true := fun a ha => by
  simp only [Bundle.stringAtoms, List.mem_cons, List.not_mem_nil, or_false] at ha
  rcases ha with rfl | rfl | rfl | rfl | rfl | rfl | rfl
  · exact (hw _ (List.mem_of_getElem? (i := 11) rfl))
  · exact (hw _ (List.mem_of_getElem? (i := 10) rfl))
  · exact (hw _ (List.mem_of_getElem? (i := 23) rfl))
  · exact (hw _ (List.mem_of_getElem? (i := 24) rfl))
  · exact (hw _ (List.mem_of_getElem? (i := 25) rfl))
  · exact (hw _ (List.mem_of_getElem? (i := 26) rfl))
  · exact (hw _ (List.mem_of_getElem? (i := 27) rfl))
theorem own_add1 {i : Int32} (h0 : 0 ≤ i.toInt) (h1 : i.toInt < 1000000) : (i + 1).toInt = i.toInt + 1 ∧ (i + 1).toInt.toNat = i.toInt.toNat + 1 := by
  have q := c_iadd i 1
  have r := rng32 (i + 1)
  have k : (1 : Int32).toInt = 1 := rfl
  omega
theorem d13_0 : decode jdk_52_method_21_code 0 = .ok (.iconst 0, 1) := by decide +kernel
theorem d13_1 : decode jdk_52_method_21_code 1 = .ok (.istore 5, 2) := by decide +kernel
theorem d13_3 : decode jdk_52_method_21_code 3 = .ok (.iload 5, 2) := by decide +kernel
theorem d13_5 : decode jdk_52_method_21_code 5 = .ok (.iload 4, 2) := by decide +kernel
theorem d13_7 : decode jdk_52_method_21_code 7 = .ok (.if_icmp .ge 37, 3) := by decide +kernel
theorem d13_10 : decode jdk_52_method_21_code 10 = .ok (.aload_n 0, 1) := by decide +kernel
theorem d13_11 : decode jdk_52_method_21_code 11 = .ok (.iload_n 1, 1) := by decide +kernel
theorem d13_12 : decode jdk_52_method_21_code 12 = .ok (.caload, 1) := by decide +kernel
theorem d13_13 : decode jdk_52_method_21_code 13 = .ok (.istore 6, 2) := by decide +kernel
theorem d13_15 : decode jdk_52_method_21_code 15 = .ok (.iload 6, 2) := by decide +kernel
theorem d13_17 : decode jdk_52_method_21_code 17 = .ok (.sipush 255, 3) := by decide +kernel
theorem d13_20 : decode jdk_52_method_21_code 20 = .ok (.if_icmp .le 6, 3) := by decide +kernel
theorem d13_23 : decode jdk_52_method_21_code 23 = .ok (.iload 5, 2) := by decide +kernel
theorem d13_25 : decode jdk_52_method_21_code 25 = .ok (.ireturn, 1) := by decide +kernel
theorem d13_26 : decode jdk_52_method_21_code 26 = .ok (.aload_n 2, 1) := by decide +kernel
theorem d13_27 : decode jdk_52_method_21_code 27 = .ok (.iload_n 3, 1) := by decide +kernel
theorem d13_28 : decode jdk_52_method_21_code 28 = .ok (.iload 6, 2) := by decide +kernel
theorem d13_30 : decode jdk_52_method_21_code 30 = .ok (.i2b, 1) := by decide +kernel
theorem d13_31 : decode jdk_52_method_21_code 31 = .ok (.bastore, 1) := by decide +kernel
theorem d13_32 : decode jdk_52_method_21_code 32 = .ok (.iinc 1 1, 3) := by decide +kernel
theorem d13_35 : decode jdk_52_method_21_code 35 = .ok (.iinc 3 1, 3) := by decide +kernel
theorem d13_38 : decode jdk_52_method_21_code 38 = .ok (.iinc 5 1, 3) := by decide +kernel
theorem d13_41 : decode jdk_52_method_21_code 41 = .ok (.goto (-38), 3) := by decide +kernel
theorem d13_44 : decode jdk_52_method_21_code 44 = .ok (.iload 4, 2) := by decide +kernel
theorem d13_46 : decode jdk_52_method_21_code 46 = .ok (.ireturn, 1) := by decide +kernel
theorem pn_0 : plainName "java/lang/StringUTF16" = true := by first | (simp [plainName, overriddenIn]; done) | decide +kernel
theorem ef_cloop (m : MethodId) (va : Addr) (da : Addr) (q : Int32) : entryFrame m #[(.ref va), (.int (0 : Int32)), (.ref da), (.int (0 : Int32)), (.int q)] 7 = mkF m 0 #[.val (.ref va), .val (.int (0 : Int32)), .val (.ref da), .val (.int (0 : Int32)), .val (.int q), .unset, .unset] [] := by first | (simp [entryFrame, mkF, argsToLocals, Value.category, maxLocals]; done) | rfl
def Q_cloop (Z : State) (va : Addr) (da : Addr) (q : Int32) (cs : Nat → Int32) (g : Nat → Value) (h0 : Heap) (n0 : Nat) : Option Value → Heap → List Loc → Prop := fun v h L => (∃ (kk : Int32) (g' : Nat → Value), v = some (.int kk) ∧ 0 ≤ kk.toInt ∧ kk.toInt ≤ q.toInt ∧ (∀ i : Nat, (i : Int) < kk.toInt → (cs i).toInt ≤ 255) ∧ (kk.toInt < q.toInt → 255 < (cs kk.toInt.toNat).toInt) ∧ own_A Z h da .byte q g' ∧ ∀ i : Nat, (i : Int) < kk.toInt → g' i = .int (nar .byte ((cs i).toInt8.toInt32))) ∧ Fr n0 L ∧ Keep h0 h [da]
set_option maxRecDepth 65536 in
set_option maxHeartbeats 40000000 in
theorem rm_cloop (l : Launch) (Z : State) (a0 : Array Value) (hw : ∀ d ∈ tables_1, d.before a0 Z = true) (ws : List Jvm.Cond) (va : Addr) (da : Addr) (q : Int32) (cs : Nat → Int32) (g : Nat → Value) (h0 : Heap) (n0 : Nat) (Z0 : n0 ≤ h0.size) (VV : own_A Z h0 va .char q (fun i => Value.int (cs i))) (VD : own_A Z h0 da .byte q g) (hne : va ≠ da) (ge_da : n0 ≤ da) (hq : 0 ≤ q.toInt ∧ q.toInt ≤ 5) :
    MetFree l (⟨"java/lang/StringUTF16", "compress", "([CI[BII)I"⟩ : MethodName) (head1 (Jvm.Cond.code (⟨"java/lang/StringUTF16", "compress", "([CI[BII)I"⟩ : MethodName) jdk_52_method_21_code 7 (some .int) :: ws) ({ frames := 0, cells := 0, slots := 0, locals := 0 } : Room)) (fun aX U => aX = #[(.ref va), (.int (0 : Int32)), (.ref da), (.int (0 : Int32)), (.int q)] ∧ Z.Warmed39 U.vm ∧ U.heap = h0) (fun _ _ _ _ _ => True) (fun _ U o U' => ∃ v L, o = .returned v ∧ (Q_cloop Z va da q cs g h0 n0) v U'.heap L ∧ FrameEnd U o U' L ({ frames := 0, cells := 0, slots := 0, locals := 0 } : Room).cells ({ frames := 0, cells := 0, slots := 0, locals := 0 } : Room).slots) := by
  refine own_met (Q := (Q_cloop Z va da q cs g h0 n0)) (plainFor_of_name (x := (⟨"java/lang/StringUTF16", "compress", "([CI[BII)I"⟩ : MethodName)) pn_0) (fun m => ef_cloop m va da q) ?_
  intro p e s m below meth cD s₁ hx hby hml hret hlk hZ hown hnm X0 e0 hs0
  have hown : s.vm.findClass "java/lang/StringUTF16" = some m.cls := hown
  have N0 := Fr.nil n0
  refine own_st (fr' := (mkF m 1 #[.val (.ref va), .val (.int (0 : Int32)), .val (.ref da), .val (.int (0 : Int32)), .val (.int q), .unset, .unset] [(.int (0 : Int32))])) (fun t k => XS.iconst X0.here hx rfl (hb hby d13_0) k) ?_
  refine own_st (fr' := (mkF m 3 #[.val (.ref va), .val (.int (0 : Int32)), .val (.ref da), .val (.int (0 : Int32)), .val (.int q), .val (.int (0 : Int32)), .unset] [])) (fun t k => XS.istore X0.here hx rfl (hb hby d13_1) rfl  (l' := #[.val (.ref va), .val (.int (0 : Int32)), .val (.ref da), .val (.int (0 : Int32)), .val (.int q), .val (.int (0 : Int32)), .unset]) rfl k) ?_
  suffices LP1 : ∀ (k : Nat) (T : State) (hh : Heap) (LL : List Loc) (i : Int32) (s6 : Slot) (gg : Nat → Value), (Stand p l e ({ frames := 0, cells := 0, slots := 0, locals := 0 } : Room) s m #[(.ref va), (.int (0 : Int32)), (.ref da), (.int (0 : Int32)), (.int q)] below meth cD T LL 0 0) → (T.heap = hh) → (Fr n0 LL) → (s6 = .unset ∨ ∃ z : Int32, s6 = .val (.int z)) → (i.toInt + k = q.toInt) → (0 ≤ i.toInt) → (∀ j : Nat, (j : Int) < i.toInt → (cs j).toInt ≤ 255) → (own_A Z hh va .char q (fun i => Value.int (cs i))) → (own_A Z hh da .byte q gg) → (∀ j : Nat, (j : Int) < i.toInt → gg j = .int (nar .byte ((cs j).toInt8.toInt32))) → (Keep h0 hh [da]) → Go p e below (.plain s) ({ frames := 0, cells := 0, slots := 0, locals := 0 } : Room).cells ({ frames := 0, cells := 0, slots := 0, locals := 0 } : Room).slots (Q_cloop Z va da q cs g h0 n0) T (mkF m 3 #[.val (.ref va), .val (.int i), .val (.ref da), .val (.int i), .val (.int q), .val (.int i), s6] []) by
    exact LP1 q.toInt.toNat _ _ _ 0 _ g X0 e0 N0 (Or.inl rfl) (by show (0 : Int) + _ = _; omega) (by decide) (fun j hj => absurd hj (by show ¬ (j : Int) < 0; omega)) VV VD (fun j hj => absurd hj (by show ¬ (j : Int) < 0; omega)) (Keep.refl h0 [da])
  intro k
  induction k with
  | zero =>
    intro T hh LL i s6 gg X eT NL hs6 hk hi Hc VV VD Hg KK
    refine own_st (fr' := (mkF m 5 #[.val (.ref va), .val (.int i), .val (.ref da), .val (.int i), .val (.int q), .val (.int i), s6] [(.int i)])) (fun t k => XS.iload X.here hx rfl (hb hby d13_3) rfl  k) ?_
    refine own_st (fr' := (mkF m 7 #[.val (.ref va), .val (.int i), .val (.ref da), .val (.int i), .val (.int q), .val (.int i), s6] [(.int q), (.int i)])) (fun t k => XS.iload X.here hx rfl (hb hby d13_5) rfl  k) ?_
    refine own_st (fr' := (mkF m 44 #[.val (.ref va), .val (.int i), .val (.ref da), .val (.int i), .val (.int q), .val (.int i), s6] [])) (fun t k => XS.icmpYes X.here hx rfl (pc0 := 7) (pc' := 44) rfl (hb hby d13_7) rfl (own_flt (x := i) (y := q) (show ¬ i.toInt < q.toInt from by omega)).2.1 (by decide) (by decide) k) ?_
    refine own_st (fr' := (mkF m 46 #[.val (.ref va), .val (.int i), .val (.ref da), .val (.int i), .val (.int q), .val (.int i), s6] [(.int q)])) (fun t k => XS.iload X.here hx rfl (hb hby d13_44) rfl  k) ?_
    exact own_retI X hx hlk hret (hb hby d13_46) (by decide) (by decide) (by rw [eT]; exact ⟨⟨q, gg, rfl, by omega, by omega, fun j hj => Hc j (by omega), fun hj => absurd hj (by omega), VD, fun j hj => Hg j (by omega)⟩, NL, KK⟩)
  | succ k ih =>
    intro T hh LL i s6 gg X eT NL hs6 hk hi Hc VV VD Hg KK
    refine own_st (fr' := (mkF m 5 #[.val (.ref va), .val (.int i), .val (.ref da), .val (.int i), .val (.int q), .val (.int i), s6] [(.int i)])) (fun t k => XS.iload X.here hx rfl (hb hby d13_3) rfl  k) ?_
    refine own_st (fr' := (mkF m 7 #[.val (.ref va), .val (.int i), .val (.ref da), .val (.int i), .val (.int q), .val (.int i), s6] [(.int q), (.int i)])) (fun t k => XS.iload X.here hx rfl (hb hby d13_5) rfl  k) ?_
    refine own_st (fr' := (mkF m 10 #[.val (.ref va), .val (.int i), .val (.ref da), .val (.int i), .val (.int q), .val (.int i), s6] [])) (fun t k => XS.icmpNo X.here hx rfl (hb hby d13_7) rfl (own_tlt (x := i) (y := q) (show i.toInt < q.toInt from by omega)).2.1 k) ?_
    refine own_st (fr' := (mkF m 11 #[.val (.ref va), .val (.int i), .val (.ref da), .val (.int i), .val (.int q), .val (.int i), s6] [(.ref va)])) (fun t k => XS.aloadN X.here hx rfl (hb hby d13_10) rfl rfl k) ?_
    refine own_st (fr' := (mkF m 12 #[.val (.ref va), .val (.int i), .val (.ref da), .val (.int i), .val (.int q), .val (.int i), s6] [(.int i), (.ref va)])) (fun t k => XS.iloadN X.here hx rfl (hb hby d13_11) rfl  k) ?_
    refine own_caload (j := i) X hx hZ eT VV (by omega) (by omega) (v := (.int (cs i.toInt.toNat))) (rfl) (hb hby d13_12) ?_
    refine own_st (fr' := (mkF m 15 #[.val (.ref va), .val (.int i), .val (.ref da), .val (.int i), .val (.int q), .val (.int i), .val (.int (cs i.toInt.toNat))] [])) (fun t k => XS.istore X.here hx rfl (hb hby d13_13) rfl  (l' := #[.val (.ref va), .val (.int i), .val (.ref da), .val (.int i), .val (.int q), .val (.int i), .val (.int (cs i.toInt.toNat))]) (by rcases hs6 with rfl | ⟨_, rfl⟩ <;> rfl) k) ?_
    refine own_st (fr' := (mkF m 17 #[.val (.ref va), .val (.int i), .val (.ref da), .val (.int i), .val (.int q), .val (.int i), .val (.int (cs i.toInt.toNat))] [(.int (cs i.toInt.toNat))])) (fun t k => XS.iload X.here hx rfl (hb hby d13_15) rfl  k) ?_
    refine own_st (fr' := (mkF m 20 #[.val (.ref va), .val (.int i), .val (.ref da), .val (.int i), .val (.int q), .val (.int i), .val (.int (cs i.toInt.toNat))] [(.int (255 : Int32)), (.int (cs i.toInt.toNat))])) (fun t k => XS.sipush X.here hx rfl (hb hby d13_17) k) ?_
    by_cases hbig : 255 < (cs i.toInt.toNat).toInt
    · refine own_st (fr' := (mkF m 23 #[.val (.ref va), .val (.int i), .val (.ref da), .val (.int i), .val (.int q), .val (.int i), .val (.int (cs i.toInt.toNat))] [])) (fun t k => XS.icmpNo X.here hx rfl (hb hby d13_20) rfl (own_tlt (x := (255 : Int32)) (y := (cs i.toInt.toNat)) hbig).2.2.2 k) ?_
      refine own_st (fr' := (mkF m 25 #[.val (.ref va), .val (.int i), .val (.ref da), .val (.int i), .val (.int q), .val (.int i), .val (.int (cs i.toInt.toNat))] [(.int i)])) (fun t k => XS.iload X.here hx rfl (hb hby d13_23) rfl  k) ?_
      exact own_retI X hx hlk hret (hb hby d13_25) (by decide) (by decide) (by rw [eT]; exact ⟨⟨i, gg, rfl, hi, by omega, Hc, fun _ => hbig, VD, Hg⟩, NL, KK⟩)
    · refine own_st (fr' := (mkF m 26 #[.val (.ref va), .val (.int i), .val (.ref da), .val (.int i), .val (.int q), .val (.int i), .val (.int (cs i.toInt.toNat))] [])) (fun t k => XS.icmpYes X.here hx rfl (pc0 := 20) (pc' := 26) rfl (hb hby d13_20) rfl (own_flt (x := (255 : Int32)) (y := (cs i.toInt.toNat)) hbig).2.2.2 (by decide) (by decide) k) ?_
      refine own_st (fr' := (mkF m 27 #[.val (.ref va), .val (.int i), .val (.ref da), .val (.int i), .val (.int q), .val (.int i), .val (.int (cs i.toInt.toNat))] [(.ref da)])) (fun t k => XS.aloadN X.here hx rfl (hb hby d13_26) rfl rfl k) ?_
      refine own_st (fr' := (mkF m 28 #[.val (.ref va), .val (.int i), .val (.ref da), .val (.int i), .val (.int q), .val (.int i), .val (.int (cs i.toInt.toNat))] [(.int i), (.ref da)])) (fun t k => XS.iloadN X.here hx rfl (hb hby d13_27) rfl  k) ?_
      refine own_st (fr' := (mkF m 30 #[.val (.ref va), .val (.int i), .val (.ref da), .val (.int i), .val (.int q), .val (.int i), .val (.int (cs i.toInt.toNat))] [(.int (cs i.toInt.toNat)), (.int i), (.ref da)])) (fun t k => XS.iload X.here hx rfl (hb hby d13_28) rfl  k) ?_
      refine own_st (fr' := (mkF m 31 #[.val (.ref va), .val (.int i), .val (.ref da), .val (.int i), .val (.int q), .val (.int i), .val (.int (cs i.toInt.toNat))] [(.int ((cs i.toInt.toNat).toInt8.toInt32)), (.int i), (.ref da)])) (fun t k => XS.i2b X.here hx rfl (hb hby d13_30) rfl k) ?_
      have a1 := own_add1 (i := i) hi (by omega)
      refine own_bastore X hx hZ eT VD (by omega) (by omega) (hb hby d13_31) ?_
      intro T3 h3 X3 e3 W3 V3
      have N3 := Fr.snoc X3 NL ge_da
      refine own_st (fr' := (mkF m 35 #[.val (.ref va), .val (.int (i + (1 : Int32))), .val (.ref da), .val (.int i), .val (.int q), .val (.int i), .val (.int (cs i.toInt.toNat))] [])) (fun t k => XS.iinc X3.here hx rfl (hb hby d13_32) rfl (l' := #[.val (.ref va), .val (.int (i + (1 : Int32))), .val (.ref da), .val (.int i), .val (.int q), .val (.int i), .val (.int (cs i.toInt.toNat))]) rfl k) ?_
      refine own_st (fr' := (mkF m 38 #[.val (.ref va), .val (.int (i + (1 : Int32))), .val (.ref da), .val (.int (i + (1 : Int32))), .val (.int q), .val (.int i), .val (.int (cs i.toInt.toNat))] [])) (fun t k => XS.iinc X3.here hx rfl (hb hby d13_35) rfl (l' := #[.val (.ref va), .val (.int (i + (1 : Int32))), .val (.ref da), .val (.int (i + (1 : Int32))), .val (.int q), .val (.int i), .val (.int (cs i.toInt.toNat))]) rfl k) ?_
      refine own_st (fr' := (mkF m 41 #[.val (.ref va), .val (.int (i + (1 : Int32))), .val (.ref da), .val (.int (i + (1 : Int32))), .val (.int q), .val (.int (i + (1 : Int32))), .val (.int (cs i.toInt.toNat))] [])) (fun t k => XS.iinc X3.here hx rfl (hb hby d13_38) rfl (l' := #[.val (.ref va), .val (.int (i + (1 : Int32))), .val (.ref da), .val (.int (i + (1 : Int32))), .val (.int q), .val (.int (i + (1 : Int32))), .val (.int (cs i.toInt.toNat))]) rfl k) ?_
      refine own_st (fr' := (mkF m 3 #[.val (.ref va), .val (.int (i + (1 : Int32))), .val (.ref da), .val (.int (i + (1 : Int32))), .val (.int q), .val (.int (i + (1 : Int32))), .val (.int (cs i.toInt.toNat))] [])) (fun t k => XS.goto X3.here hx rfl (pc0 := 41) (pc' := 3) rfl (hb hby d13_41) (by decide) (by decide) k) ?_
      refine ih _ _ _ (i + 1) _ _ X3 e3 N3 (Or.inr ⟨_, rfl⟩) (by omega) (by omega) (fun j hj => ?_) (VV.other W3 hne) V3 (fun j hj => ?_) (Keep.wr KK W3 (Or.inl (List.mem_of_getElem? (i := 0) rfl)))
      · by_cases hj2 : (j : Int) < i.toInt
        · exact Hc j hj2
        · have e1 : j = i.toInt.toNat := by omega
          subst e1; omega
      · by_cases hj2 : (j : Int) < i.toInt
        · have e1 : ¬ j = i.toInt.toNat := by omega
          show (if j = i.toInt.toNat then _ else _) = _
          rw [if_neg e1]; exact Hg j hj2
        · have e1 : j = i.toInt.toNat := by omega
          show (if j = i.toInt.toNat then _ else _) = _
          rw [if_pos e1, e1]
theorem own_cfal (q nb : Int32) (hq : 0 ≤ q.toInt ∧ q.toInt ≤ 1000) (hnb : 0 ≤ nb.toInt ∧ nb.toInt ≤ 1000) : (nb.toInt ≤ q.toInt ∧ ((q - nb).toUInt32 >>> ((31 : Int32) &&& 31).toUInt32).toInt32.toInt8.toInt32 = 0) ∨ (q.toInt < nb.toInt ∧ ((q - nb).toUInt32 >>> ((31 : Int32) &&& 31).toUInt32).toInt32.toInt8.toInt32 = 1) := by
  have s1 := c_isub q nb
  have s2 := rng32 (q - nb)
  generalize q - nb = d at s1 s2
  have e1 : ((31 : Int32) &&& 31).toUInt32 = 31 := by decide
  rw [e1]
  have e2 : d.toUInt32 >>> 31 = if d.toInt < 0 then 1 else 0 := by
    have : ∀ x : BitVec 32, x >>> (31 : Nat) = if x.toInt < 0 then 1#32 else 0#32 := by
      intro x
      have h1 : x.toInt < 0 ↔ 2147483648 ≤ x.toNat := by rw [BitVec.toInt_eq_toNat_cond]; split <;> omega
      apply BitVec.eq_of_toNat_eq
      rw [BitVec.toNat_ushiftRight, Nat.shiftRight_eq_div_pow]
      split
      · have := x.isLt; simp; omega
      · simp; omega
    have h2 := this d.toBitVec
    apply UInt32.toBitVec_inj.mp
    show d.toBitVec >>> (31 : BitVec 32) = _
    have h3 : d.toBitVec >>> (31 : BitVec 32) = d.toBitVec >>> (31 : Nat) := rfl
    rw [h3, h2]
    show (if d.toInt < 0 then 1#32 else 0#32) = _
    split <;> rfl
  by_cases hd : d.toInt < 0
  · right; refine ⟨by omega, ?_⟩; rw [e2, if_pos hd]; decide
  · left; refine ⟨by omega, ?_⟩; rw [e2, if_neg hd]; decide
theorem d19_0 : decode jdk_52_method_15_code 0 = .ok (.iload_n 1, 1) := by decide +kernel
theorem d19_1 : decode jdk_52_method_15_code 1 = .ok (.aload_n 0, 1) := by decide +kernel
theorem d19_2 : decode jdk_52_method_15_code 2 = .ok (.arraylength, 1) := by decide +kernel
theorem d19_3 : decode jdk_52_method_15_code 3 = .ok (.isub, 1) := by decide +kernel
theorem d19_4 : decode jdk_52_method_15_code 4 = .ok (.bipush 31, 2) := by decide +kernel
theorem d19_6 : decode jdk_52_method_15_code 6 = .ok (.iushr, 1) := by decide +kernel
theorem d19_7 : decode jdk_52_method_15_code 7 = .ok (.i2b, 1) := by decide +kernel
theorem d19_8 : decode jdk_52_method_15_code 8 = .ok (.ireturn, 1) := by decide +kernel
theorem ef_cfal (m : MethodId) (da : Addr) (q : Int32) : entryFrame m #[(.ref da), (.int q)] 2 = mkF m 0 #[.val (.ref da), .val (.int q)] [] := by first | (simp [entryFrame, mkF, argsToLocals, Value.category, maxLocals]; done) | rfl
def Q_cfal (Z : State) (da : Addr) (q : Int32) (nb : Int32) (g : Nat → Value) (h0 : Heap) (n0 : Nat) : Option Value → Heap → List Loc → Prop := fun v h L => (∃ z : Int32, v = some (.int z) ∧ ((nb.toInt ≤ q.toInt ∧ z = 0) ∨ (q.toInt < nb.toInt ∧ z = 1))) ∧ Fr n0 L ∧ h = h0
set_option maxRecDepth 65536 in
set_option maxHeartbeats 40000000 in
theorem rm_cfal (l : Launch) (Z : State) (a0 : Array Value) (hw : ∀ d ∈ tables_1, d.before a0 Z = true) (ws : List Jvm.Cond) (da : Addr) (q : Int32) (nb : Int32) (g : Nat → Value) (h0 : Heap) (n0 : Nat) (Z0 : n0 ≤ h0.size) (VD : own_A Z h0 da .byte nb g) (hq : 0 ≤ q.toInt ∧ q.toInt ≤ 1000) (hnb : 0 ≤ nb.toInt ∧ nb.toInt ≤ 1000) :
    MetFree l (⟨"java/lang/StringUTF16", "coderFromArrayLen", "([BI)B"⟩ : MethodName) (head1 (Jvm.Cond.code (⟨"java/lang/StringUTF16", "coderFromArrayLen", "([BI)B"⟩ : MethodName) jdk_52_method_15_code 2 (some .byte) :: ws) ({ frames := 0, cells := 0, slots := 0, locals := 0 } : Room)) (fun aX U => aX = #[(.ref da), (.int q)] ∧ Z.Warmed39 U.vm ∧ U.heap = h0) (fun _ _ _ _ _ => True) (fun _ U o U' => ∃ v L, o = .returned v ∧ (Q_cfal Z da q nb g h0 n0) v U'.heap L ∧ FrameEnd U o U' L ({ frames := 0, cells := 0, slots := 0, locals := 0 } : Room).cells ({ frames := 0, cells := 0, slots := 0, locals := 0 } : Room).slots) := by
  refine own_met (Q := (Q_cfal Z da q nb g h0 n0)) (plainFor_of_name (x := (⟨"java/lang/StringUTF16", "coderFromArrayLen", "([BI)B"⟩ : MethodName)) pn_0) (fun m => ef_cfal m da q) ?_
  intro p e s m below meth cD s₁ hx hby hml hret hlk hZ hown hnm X0 e0 hs0
  have hown : s.vm.findClass "java/lang/StringUTF16" = some m.cls := hown
  have N0 := Fr.nil n0
  refine own_st (fr' := (mkF m 1 #[.val (.ref da), .val (.int q)] [(.int q)])) (fun t k => XS.iloadN X0.here hx rfl (hb hby d19_0) rfl  k) ?_
  refine own_st (fr' := (mkF m 2 #[.val (.ref da), .val (.int q)] [(.ref da), (.int q)])) (fun t k => XS.aloadN X0.here hx rfl (hb hby d19_1) rfl rfl k) ?_
  refine own_alen X0 hx hZ e0 VD (hb hby d19_2) ?_
  refine own_st (fr' := (mkF m 4 #[.val (.ref da), .val (.int q)] [(.int (q - nb))])) (fun t k => XS.isub X0.here hx rfl (hb hby d19_3) rfl k) ?_
  refine own_st (fr' := (mkF m 6 #[.val (.ref da), .val (.int q)] [(.int (31 : Int32)), (.int (q - nb))])) (fun t k => XS.bipush X0.here hx rfl (hb hby d19_4) k) ?_
  refine own_st (fr' := (mkF m 7 #[.val (.ref da), .val (.int q)] [(.int (((q - nb).toUInt32 >>> ((31 : Int32) &&& 31).toUInt32).toInt32))])) (fun t k => XS.iushr X0.here hx rfl (hb hby d19_6) rfl k) ?_
  refine own_st (fr' := (mkF m 8 #[.val (.ref da), .val (.int q)] [(.int ((((q - nb).toUInt32 >>> ((31 : Int32) &&& 31).toUInt32).toInt32).toInt8.toInt32))])) (fun t k => XS.i2b X0.here hx rfl (hb hby d19_7) rfl k) ?_
  exact own_ret X0 hx hlk hret (by rcases own_cfal q nb hq hnb with ⟨_, hz⟩ | ⟨_, hz⟩ <;> rw [hz] <;> rfl) (Or.inl ⟨rfl, by simp, _, rfl⟩) (hb hby d19_8) (by decide) (by decide) (⟨⟨_, rfl, own_cfal q nb hq hnb⟩, N0, e0⟩)
def own_S8 (g : Nat → Value) (n : Int) (cs : Nat → Int32) : Prop := ∀ i : Nat, (i : Int) < n → (cs i).toInt ≤ 255 ∧ ∃ z : Int32, g i = .int z ∧ (z.toInt - (cs i).toInt) % 256 = 0
def own_P16 (g : Nat → Value) (i : Nat) (c : Int32) : Prop := ∃ z0 z1 : Int32, g (2 * i) = .int z0 ∧ g (2 * i + 1) = .int z1 ∧ (z0.toInt - c.toInt) % 256 = 0 ∧ (z1.toInt - c.toInt / 256) % 256 = 0
def own_S16 (g : Nat → Value) (n : Int) (cs : Nat → Int32) : Prop := ∀ i : Nat, (i : Int) < n → own_P16 g i (cs i)
def own_Rg (cs : Nat → Int32) : Prop := ∀ i, 0 ≤ (cs i).toInt ∧ (cs i).toInt ≤ 65535
theorem own_fitc {Z : State} {h : Heap} {a : Addr} {n : Int32} {f : Nat → Value} (A : own_A Z h a .char n f) {i : Nat} (hi : (i : Int) < n.toInt) : ∃ z : Int32, f i = .int z ∧ 0 ≤ z.toInt ∧ z.toInt ≤ 65535 := by
  obtain ⟨cl, -, hs, -, -, G⟩ := A
  have q := G i (by rw [hs, own_cl]; omega)
  cases hv : f i <;> rw [hv] at q <;> simp [fits] at q
  rename_i z
  refine ⟨z, rfl, ?_, ?_⟩
  · have := q.1; rw [Int32.le_iff_toInt_le] at this; exact this
  · have := q.2; rw [Int32.le_iff_toInt_le] at this; exact this
theorem own_c16 (c z0 z1 : Int32) (h0 : 0 ≤ c.toInt) (h1 : c.toInt ≤ 65535) (a : (z0.toInt - c.toInt) % 256 = 0) (b : (z1.toInt - c.toInt / 256) % 256 = 0) : ((((z0 &&& (255 : Int32)) <<< ((0 : Int32) &&& 31)) ||| ((z1 &&& (255 : Int32)) <<< ((8 : Int32) &&& 31))).toUInt32.toUInt16.toUInt32.toInt32) = c := by
  have m0 := c_mask z0 255 8 (by decide) (by decide)
  have m1 := c_mask z1 255 8 (by decide) (by decide)
  have s0 := c_ishl (z0 &&& 255) 0 0 (by decide)
  have s1 := c_ishl (z1 &&& 255) 8 8 (by decide)
  have r0 := rng32 ((z0 &&& 255) <<< ((0 : Int32) &&& 31))
  have r1 := rng32 ((z1 &&& 255) <<< ((8 : Int32) &&& 31))
  have o := c_or' ((z0 &&& 255) <<< ((0 : Int32) &&& 31)) ((z1 &&& 255) <<< ((8 : Int32) &&& 31)) 8 (by decide) 256 rfl (by omega) (by omega) (by omega)
  have q := c_i2c (((z0 &&& 255) <<< ((0 : Int32) &&& 31)) ||| ((z1 &&& 255) <<< ((8 : Int32) &&& 31)))
  apply Int32.toInt_inj.mp
  omega
theorem own_c8 (c z : Int32) (h0 : 0 ≤ c.toInt) (h1 : c.toInt ≤ 255) (a : (z.toInt - c.toInt) % 256 = 0) : ((z &&& (255 : Int32)).toUInt32.toUInt16.toUInt32.toInt32) = c := by
  have m0 := c_mask z 255 8 (by decide) (by decide)
  have q := c_i2c (z &&& 255)
  apply Int32.toInt_inj.mp
  omega
theorem own_narc (z : Int32) (h0 : 0 ≤ z.toInt) (h1 : z.toInt ≤ 65535) : narrow .char (.int z) = .int z := by
  have q := c_i2c z
  show Value.int z.toUInt32.toUInt16.toUInt32.toInt32 = _
  congr 1
  apply Int32.toInt_inj.mp
  omega
theorem d1_0 : decode method_6_code 0 = .ok (.iload_n 0, 1) := by decide +kernel
theorem d1_1 : decode method_6_code 1 = .ok (.bipush 16, 2) := by decide +kernel
theorem d1_3 : decode method_6_code 3 = .ok (.iand, 1) := by decide +kernel
theorem d1_4 : decode method_6_code 4 = .ok (.ifCond .eq 9, 3) := by decide +kernel
theorem d1_7 : decode method_6_code 7 = .ok (.iload_n 0, 1) := by decide +kernel
theorem d1_8 : decode method_6_code 8 = .ok (.bipush 16, 2) := by decide +kernel
theorem d1_10 : decode method_6_code 10 = .ok (.iushr, 1) := by decide +kernel
theorem d1_11 : decode method_6_code 11 = .ok (.i2c, 1) := by decide +kernel
theorem d1_12 : decode method_6_code 12 = .ok (.ireturn, 1) := by decide +kernel
theorem d1_13 : decode method_6_code 13 = .ok (.bipush 16, 2) := by decide +kernel
theorem d1_15 : decode method_6_code 15 = .ok (.newarray .char, 2) := by decide +kernel
theorem d1_17 : decode method_6_code 17 = .ok (.dup, 1) := by decide +kernel
theorem d1_18 : decode method_6_code 18 = .ok (.iconst 0, 1) := by decide +kernel
theorem d1_19 : decode method_6_code 19 = .ok (.bipush 32, 2) := by decide +kernel
theorem d1_21 : decode method_6_code 21 = .ok (.castore, 1) := by decide +kernel
theorem d1_22 : decode method_6_code 22 = .ok (.dup, 1) := by decide +kernel
theorem d1_23 : decode method_6_code 23 = .ok (.iconst 1, 1) := by decide +kernel
theorem d1_24 : decode method_6_code 24 = .ok (.bipush 9, 2) := by decide +kernel
theorem d1_26 : decode method_6_code 26 = .ok (.castore, 1) := by decide +kernel
theorem d1_27 : decode method_6_code 27 = .ok (.dup, 1) := by decide +kernel
theorem d1_28 : decode method_6_code 28 = .ok (.iconst 2, 1) := by decide +kernel
theorem d1_29 : decode method_6_code 29 = .ok (.bipush 10, 2) := by decide +kernel
theorem d1_31 : decode method_6_code 31 = .ok (.castore, 1) := by decide +kernel
theorem d1_32 : decode method_6_code 32 = .ok (.dup, 1) := by decide +kernel
theorem d1_33 : decode method_6_code 33 = .ok (.iconst 3, 1) := by decide +kernel
theorem d1_34 : decode method_6_code 34 = .ok (.bipush 13, 2) := by decide +kernel
theorem d1_36 : decode method_6_code 36 = .ok (.castore, 1) := by decide +kernel
theorem d1_37 : decode method_6_code 37 = .ok (.dup, 1) := by decide +kernel
theorem d1_38 : decode method_6_code 38 = .ok (.iconst 4, 1) := by decide +kernel
theorem d1_39 : decode method_6_code 39 = .ok (.bipush 11, 2) := by decide +kernel
theorem d1_41 : decode method_6_code 41 = .ok (.castore, 1) := by decide +kernel
theorem d1_42 : decode method_6_code 42 = .ok (.dup, 1) := by decide +kernel
theorem d1_43 : decode method_6_code 43 = .ok (.iconst 5, 1) := by decide +kernel
theorem d1_44 : decode method_6_code 44 = .ok (.bipush 12, 2) := by decide +kernel
theorem d1_46 : decode method_6_code 46 = .ok (.castore, 1) := by decide +kernel
theorem d1_47 : decode method_6_code 47 = .ok (.dup, 1) := by decide +kernel
theorem d1_48 : decode method_6_code 48 = .ok (.bipush 6, 2) := by decide +kernel
theorem d1_50 : decode method_6_code 50 = .ok (.iconst 0, 1) := by decide +kernel
theorem d1_51 : decode method_6_code 51 = .ok (.castore, 1) := by decide +kernel
theorem d1_52 : decode method_6_code 52 = .ok (.dup, 1) := by decide +kernel
theorem d1_53 : decode method_6_code 53 = .ok (.bipush 7, 2) := by decide +kernel
theorem d1_55 : decode method_6_code 55 = .ok (.bipush 8, 2) := by decide +kernel
theorem d1_57 : decode method_6_code 57 = .ok (.castore, 1) := by decide +kernel
theorem d1_58 : decode method_6_code 58 = .ok (.dup, 1) := by decide +kernel
theorem d1_59 : decode method_6_code 59 = .ok (.bipush 8, 2) := by decide +kernel
theorem d1_61 : decode method_6_code 61 = .ok (.bipush 14, 2) := by decide +kernel
theorem d1_63 : decode method_6_code 63 = .ok (.castore, 1) := by decide +kernel
theorem d1_64 : decode method_6_code 64 = .ok (.dup, 1) := by decide +kernel
theorem d1_65 : decode method_6_code 65 = .ok (.bipush 9, 2) := by decide +kernel
theorem d1_67 : decode method_6_code 67 = .ok (.bipush 28, 2) := by decide +kernel
theorem d1_69 : decode method_6_code 69 = .ok (.castore, 1) := by decide +kernel
theorem d1_70 : decode method_6_code 70 = .ok (.dup, 1) := by decide +kernel
theorem d1_71 : decode method_6_code 71 = .ok (.bipush 10, 2) := by decide +kernel
theorem d1_73 : decode method_6_code 73 = .ok (.bipush 31, 2) := by decide +kernel
theorem d1_75 : decode method_6_code 75 = .ok (.castore, 1) := by decide +kernel
theorem d1_76 : decode method_6_code 76 = .ok (.dup, 1) := by decide +kernel
theorem d1_77 : decode method_6_code 77 = .ok (.bipush 11, 2) := by decide +kernel
theorem d1_79 : decode method_6_code 79 = .ok (.bipush 33, 2) := by decide +kernel
theorem d1_81 : decode method_6_code 81 = .ok (.castore, 1) := by decide +kernel
theorem d1_82 : decode method_6_code 82 = .ok (.dup, 1) := by decide +kernel
theorem d1_83 : decode method_6_code 83 = .ok (.bipush 12, 2) := by decide +kernel
theorem d1_85 : decode method_6_code 85 = .ok (.sipush 133, 3) := by decide +kernel
theorem d1_88 : decode method_6_code 88 = .ok (.castore, 1) := by decide +kernel
theorem d1_89 : decode method_6_code 89 = .ok (.dup, 1) := by decide +kernel
theorem d1_90 : decode method_6_code 90 = .ok (.bipush 13, 2) := by decide +kernel
theorem d1_92 : decode method_6_code 92 = .ok (.sipush 160, 3) := by decide +kernel
theorem d1_95 : decode method_6_code 95 = .ok (.castore, 1) := by decide +kernel
theorem d1_96 : decode method_6_code 96 = .ok (.dup, 1) := by decide +kernel
theorem d1_97 : decode method_6_code 97 = .ok (.bipush 14, 2) := by decide +kernel
theorem d1_99 : decode method_6_code 99 = .ok (.bipush 127, 2) := by decide +kernel
theorem d1_101 : decode method_6_code 101 = .ok (.castore, 1) := by decide +kernel
theorem d1_102 : decode method_6_code 102 = .ok (.dup, 1) := by decide +kernel
theorem d1_103 : decode method_6_code 103 = .ok (.bipush 15, 2) := by decide +kernel
theorem d1_105 : decode method_6_code 105 = .ok (.sipush 12288, 3) := by decide +kernel
theorem d1_108 : decode method_6_code 108 = .ok (.castore, 1) := by decide +kernel
theorem d1_109 : decode method_6_code 109 = .ok (.astore_n 1, 1) := by decide +kernel
theorem d1_110 : decode method_6_code 110 = .ok (.aload_n 1, 1) := by decide +kernel
theorem d1_111 : decode method_6_code 111 = .ok (.iload_n 0, 1) := by decide +kernel
theorem d1_112 : decode method_6_code 112 = .ok (.bipush 15, 2) := by decide +kernel
theorem d1_114 : decode method_6_code 114 = .ok (.iand, 1) := by decide +kernel
theorem d1_115 : decode method_6_code 115 = .ok (.caload, 1) := by decide +kernel
theorem d1_116 : decode method_6_code 116 = .ok (.ireturn, 1) := by decide +kernel
theorem pn_1 : plainName "com/example/linkvouch/linkvouch/AttributeValueTrimmedPinLaw" = true := by first | (simp [plainName, overriddenIn]; done) | decide +kernel
theorem ef_pick (m : MethodId) (q : Int32) : entryFrame m #[(.int q)] 2 = mkF m 0 #[.val (.int q), .unset] [] := by first | (simp [entryFrame, mkF, argsToLocals, Value.category, maxLocals]; done) | rfl
def Q_pick (Z : State) (q : Int32) (h0 : Heap) (n0 : Nat) : Option Value → Heap → List Loc → Prop := fun v h L => (∃ z : Int32, v = some (.int z) ∧ 0 ≤ z.toInt ∧ z.toInt ≤ 65535) ∧ Fr n0 L ∧ Keep h0 h []
set_option maxRecDepth 65536 in
set_option maxHeartbeats 40000000 in
theorem rm_pick (l : Launch) (Z : State) (a0 : Array Value) (hw : ∀ d ∈ tables_1, d.before a0 Z = true) (ws : List Jvm.Cond) (q : Int32) (h0 : Heap) (n0 : Nat) (Z0 : n0 ≤ h0.size)  :
    MetFree l (⟨"com/example/linkvouch/linkvouch/AttributeValueTrimmedPinLaw", "pick", "(I)C"⟩ : MethodName) (head1 (Jvm.Cond.code (⟨"com/example/linkvouch/linkvouch/AttributeValueTrimmedPinLaw", "pick", "(I)C"⟩ : MethodName) method_6_code 2 (some .char) :: ws) ({ frames := 0, cells := 1, slots := 16, locals := 0 } : Room)) (fun aX U => aX = #[(.int q)] ∧ Z.Warmed39 U.vm ∧ U.heap = h0) (fun _ _ _ _ _ => True) (fun _ U o U' => ∃ v L, o = .returned v ∧ (Q_pick Z q h0 n0) v U'.heap L ∧ FrameEnd U o U' L ({ frames := 0, cells := 1, slots := 16, locals := 0 } : Room).cells ({ frames := 0, cells := 1, slots := 16, locals := 0 } : Room).slots) := by
  refine own_met (Q := (Q_pick Z q h0 n0)) (plainFor_of_name (x := (⟨"com/example/linkvouch/linkvouch/AttributeValueTrimmedPinLaw", "pick", "(I)C"⟩ : MethodName)) pn_1) (fun m => ef_pick m q) ?_
  intro p e s m below meth cD s₁ hx hby hml hret hlk hZ hown hnm X0 e0 hs0
  have hown : s.vm.findClass "com/example/linkvouch/linkvouch/AttributeValueTrimmedPinLaw" = some m.cls := hown
  have N0 := Fr.nil n0
  refine own_st (fr' := (mkF m 1 #[.val (.int q), .unset] [(.int q)])) (fun t k => XS.iloadN X0.here hx rfl (hb hby d1_0) rfl  k) ?_
  refine own_st (fr' := (mkF m 3 #[.val (.int q), .unset] [(.int (16 : Int32)), (.int q)])) (fun t k => XS.bipush X0.here hx rfl (hb hby d1_1) k) ?_
  refine own_st (fr' := (mkF m 4 #[.val (.int q), .unset] [(.int (q &&& (16 : Int32)))])) (fun t k => XS.iand X0.here hx rfl (hb hby d1_3) rfl k) ?_
  by_cases h1 : (q &&& (16 : Int32)).toInt = 0
  · refine own_st (fr' := (mkF m 13 #[.val (.int q), .unset] [])) (fun t k => XS.ifYes X0.here hx rfl (pc0 := 4) (pc' := 13) rfl (hb hby d1_4) rfl ((if0 _ _).trans (own_teq (x := (q &&& (16 : Int32))) (y := (0 : Int32)) h1).1) (by decide) (by decide) k) ?_
    refine own_st (fr' := (mkF m 15 #[.val (.int q), .unset] [(.int (16 : Int32))])) (fun t k => XS.bipush X0.here hx rfl (hb hby d1_13) k) ?_
    refine own_newarr X0 hx hZ (hw _ (List.mem_of_getElem? (i := 5) rfl)) e0 (hb hby d1_15) (by decide) (cap := 16) (by decide) (by decide) (by decide) (by decide) rfl ?_
    intro T4 h4 b4 g4 X4 e4 E4 V4
    have ge_b4 : n0 ≤ b4 := Nat.le_trans Z0 (Nat.le_of_eq g4.symm)
    have sz_b4 : h0.size ≤ b4 := Nat.le_trans (Nat.le_refl _) (Nat.le_of_eq g4.symm)
    refine own_st (fr' := (mkF m 18 #[.val (.int q), .unset] [(.ref b4), (.ref b4)])) (fun t k => XS.dup X4.here hx rfl (hb hby d1_17) rfl rfl k) ?_
    refine own_st (fr' := (mkF m 19 #[.val (.int q), .unset] [(.int (0 : Int32)), (.ref b4), (.ref b4)])) (fun t k => XS.iconst X4.here hx rfl (hb hby d1_18) k) ?_
    refine own_st (fr' := (mkF m 21 #[.val (.int q), .unset] [(.int (32 : Int32)), (.int (0 : Int32)), (.ref b4), (.ref b4)])) (fun t k => XS.bipush X4.here hx rfl (hb hby d1_19) k) ?_
    refine own_castore X4 hx hZ e4 V4 (by decide) (by decide) (hb hby d1_21) ?_
    intro T5 h5 X5 e5 W5 V5
    have N5 := Fr.snoc X5 N0 ge_b4
    refine own_st (fr' := (mkF m 23 #[.val (.int q), .unset] [(.ref b4), (.ref b4)])) (fun t k => XS.dup X5.here hx rfl (hb hby d1_22) rfl rfl k) ?_
    refine own_st (fr' := (mkF m 24 #[.val (.int q), .unset] [(.int (1 : Int32)), (.ref b4), (.ref b4)])) (fun t k => XS.iconst X5.here hx rfl (hb hby d1_23) k) ?_
    refine own_st (fr' := (mkF m 26 #[.val (.int q), .unset] [(.int (9 : Int32)), (.int (1 : Int32)), (.ref b4), (.ref b4)])) (fun t k => XS.bipush X5.here hx rfl (hb hby d1_24) k) ?_
    refine own_castore X5 hx hZ e5 V5 (by decide) (by decide) (hb hby d1_26) ?_
    intro T6 h6 X6 e6 W6 V6
    have N6 := Fr.snoc X6 N5 ge_b4
    refine own_st (fr' := (mkF m 28 #[.val (.int q), .unset] [(.ref b4), (.ref b4)])) (fun t k => XS.dup X6.here hx rfl (hb hby d1_27) rfl rfl k) ?_
    refine own_st (fr' := (mkF m 29 #[.val (.int q), .unset] [(.int (2 : Int32)), (.ref b4), (.ref b4)])) (fun t k => XS.iconst X6.here hx rfl (hb hby d1_28) k) ?_
    refine own_st (fr' := (mkF m 31 #[.val (.int q), .unset] [(.int (10 : Int32)), (.int (2 : Int32)), (.ref b4), (.ref b4)])) (fun t k => XS.bipush X6.here hx rfl (hb hby d1_29) k) ?_
    refine own_castore X6 hx hZ e6 V6 (by decide) (by decide) (hb hby d1_31) ?_
    intro T7 h7 X7 e7 W7 V7
    have N7 := Fr.snoc X7 N6 ge_b4
    refine own_st (fr' := (mkF m 33 #[.val (.int q), .unset] [(.ref b4), (.ref b4)])) (fun t k => XS.dup X7.here hx rfl (hb hby d1_32) rfl rfl k) ?_
    refine own_st (fr' := (mkF m 34 #[.val (.int q), .unset] [(.int (3 : Int32)), (.ref b4), (.ref b4)])) (fun t k => XS.iconst X7.here hx rfl (hb hby d1_33) k) ?_
    refine own_st (fr' := (mkF m 36 #[.val (.int q), .unset] [(.int (13 : Int32)), (.int (3 : Int32)), (.ref b4), (.ref b4)])) (fun t k => XS.bipush X7.here hx rfl (hb hby d1_34) k) ?_
    refine own_castore X7 hx hZ e7 V7 (by decide) (by decide) (hb hby d1_36) ?_
    intro T8 h8 X8 e8 W8 V8
    have N8 := Fr.snoc X8 N7 ge_b4
    refine own_st (fr' := (mkF m 38 #[.val (.int q), .unset] [(.ref b4), (.ref b4)])) (fun t k => XS.dup X8.here hx rfl (hb hby d1_37) rfl rfl k) ?_
    refine own_st (fr' := (mkF m 39 #[.val (.int q), .unset] [(.int (4 : Int32)), (.ref b4), (.ref b4)])) (fun t k => XS.iconst X8.here hx rfl (hb hby d1_38) k) ?_
    refine own_st (fr' := (mkF m 41 #[.val (.int q), .unset] [(.int (11 : Int32)), (.int (4 : Int32)), (.ref b4), (.ref b4)])) (fun t k => XS.bipush X8.here hx rfl (hb hby d1_39) k) ?_
    refine own_castore X8 hx hZ e8 V8 (by decide) (by decide) (hb hby d1_41) ?_
    intro T9 h9 X9 e9 W9 V9
    have N9 := Fr.snoc X9 N8 ge_b4
    refine own_st (fr' := (mkF m 43 #[.val (.int q), .unset] [(.ref b4), (.ref b4)])) (fun t k => XS.dup X9.here hx rfl (hb hby d1_42) rfl rfl k) ?_
    refine own_st (fr' := (mkF m 44 #[.val (.int q), .unset] [(.int (5 : Int32)), (.ref b4), (.ref b4)])) (fun t k => XS.iconst X9.here hx rfl (hb hby d1_43) k) ?_
    refine own_st (fr' := (mkF m 46 #[.val (.int q), .unset] [(.int (12 : Int32)), (.int (5 : Int32)), (.ref b4), (.ref b4)])) (fun t k => XS.bipush X9.here hx rfl (hb hby d1_44) k) ?_
    refine own_castore X9 hx hZ e9 V9 (by decide) (by decide) (hb hby d1_46) ?_
    intro T10 h10 X10 e10 W10 V10
    have N10 := Fr.snoc X10 N9 ge_b4
    refine own_st (fr' := (mkF m 48 #[.val (.int q), .unset] [(.ref b4), (.ref b4)])) (fun t k => XS.dup X10.here hx rfl (hb hby d1_47) rfl rfl k) ?_
    refine own_st (fr' := (mkF m 50 #[.val (.int q), .unset] [(.int (6 : Int32)), (.ref b4), (.ref b4)])) (fun t k => XS.bipush X10.here hx rfl (hb hby d1_48) k) ?_
    refine own_st (fr' := (mkF m 51 #[.val (.int q), .unset] [(.int (0 : Int32)), (.int (6 : Int32)), (.ref b4), (.ref b4)])) (fun t k => XS.iconst X10.here hx rfl (hb hby d1_50) k) ?_
    refine own_castore X10 hx hZ e10 V10 (by decide) (by decide) (hb hby d1_51) ?_
    intro T11 h11 X11 e11 W11 V11
    have N11 := Fr.snoc X11 N10 ge_b4
    refine own_st (fr' := (mkF m 53 #[.val (.int q), .unset] [(.ref b4), (.ref b4)])) (fun t k => XS.dup X11.here hx rfl (hb hby d1_52) rfl rfl k) ?_
    refine own_st (fr' := (mkF m 55 #[.val (.int q), .unset] [(.int (7 : Int32)), (.ref b4), (.ref b4)])) (fun t k => XS.bipush X11.here hx rfl (hb hby d1_53) k) ?_
    refine own_st (fr' := (mkF m 57 #[.val (.int q), .unset] [(.int (8 : Int32)), (.int (7 : Int32)), (.ref b4), (.ref b4)])) (fun t k => XS.bipush X11.here hx rfl (hb hby d1_55) k) ?_
    refine own_castore X11 hx hZ e11 V11 (by decide) (by decide) (hb hby d1_57) ?_
    intro T12 h12 X12 e12 W12 V12
    have N12 := Fr.snoc X12 N11 ge_b4
    refine own_st (fr' := (mkF m 59 #[.val (.int q), .unset] [(.ref b4), (.ref b4)])) (fun t k => XS.dup X12.here hx rfl (hb hby d1_58) rfl rfl k) ?_
    refine own_st (fr' := (mkF m 61 #[.val (.int q), .unset] [(.int (8 : Int32)), (.ref b4), (.ref b4)])) (fun t k => XS.bipush X12.here hx rfl (hb hby d1_59) k) ?_
    refine own_st (fr' := (mkF m 63 #[.val (.int q), .unset] [(.int (14 : Int32)), (.int (8 : Int32)), (.ref b4), (.ref b4)])) (fun t k => XS.bipush X12.here hx rfl (hb hby d1_61) k) ?_
    refine own_castore X12 hx hZ e12 V12 (by decide) (by decide) (hb hby d1_63) ?_
    intro T13 h13 X13 e13 W13 V13
    have N13 := Fr.snoc X13 N12 ge_b4
    refine own_st (fr' := (mkF m 65 #[.val (.int q), .unset] [(.ref b4), (.ref b4)])) (fun t k => XS.dup X13.here hx rfl (hb hby d1_64) rfl rfl k) ?_
    refine own_st (fr' := (mkF m 67 #[.val (.int q), .unset] [(.int (9 : Int32)), (.ref b4), (.ref b4)])) (fun t k => XS.bipush X13.here hx rfl (hb hby d1_65) k) ?_
    refine own_st (fr' := (mkF m 69 #[.val (.int q), .unset] [(.int (28 : Int32)), (.int (9 : Int32)), (.ref b4), (.ref b4)])) (fun t k => XS.bipush X13.here hx rfl (hb hby d1_67) k) ?_
    refine own_castore X13 hx hZ e13 V13 (by decide) (by decide) (hb hby d1_69) ?_
    intro T14 h14 X14 e14 W14 V14
    have N14 := Fr.snoc X14 N13 ge_b4
    refine own_st (fr' := (mkF m 71 #[.val (.int q), .unset] [(.ref b4), (.ref b4)])) (fun t k => XS.dup X14.here hx rfl (hb hby d1_70) rfl rfl k) ?_
    refine own_st (fr' := (mkF m 73 #[.val (.int q), .unset] [(.int (10 : Int32)), (.ref b4), (.ref b4)])) (fun t k => XS.bipush X14.here hx rfl (hb hby d1_71) k) ?_
    refine own_st (fr' := (mkF m 75 #[.val (.int q), .unset] [(.int (31 : Int32)), (.int (10 : Int32)), (.ref b4), (.ref b4)])) (fun t k => XS.bipush X14.here hx rfl (hb hby d1_73) k) ?_
    refine own_castore X14 hx hZ e14 V14 (by decide) (by decide) (hb hby d1_75) ?_
    intro T15 h15 X15 e15 W15 V15
    have N15 := Fr.snoc X15 N14 ge_b4
    refine own_st (fr' := (mkF m 77 #[.val (.int q), .unset] [(.ref b4), (.ref b4)])) (fun t k => XS.dup X15.here hx rfl (hb hby d1_76) rfl rfl k) ?_
    refine own_st (fr' := (mkF m 79 #[.val (.int q), .unset] [(.int (11 : Int32)), (.ref b4), (.ref b4)])) (fun t k => XS.bipush X15.here hx rfl (hb hby d1_77) k) ?_
    refine own_st (fr' := (mkF m 81 #[.val (.int q), .unset] [(.int (33 : Int32)), (.int (11 : Int32)), (.ref b4), (.ref b4)])) (fun t k => XS.bipush X15.here hx rfl (hb hby d1_79) k) ?_
    refine own_castore X15 hx hZ e15 V15 (by decide) (by decide) (hb hby d1_81) ?_
    intro T16 h16 X16 e16 W16 V16
    have N16 := Fr.snoc X16 N15 ge_b4
    refine own_st (fr' := (mkF m 83 #[.val (.int q), .unset] [(.ref b4), (.ref b4)])) (fun t k => XS.dup X16.here hx rfl (hb hby d1_82) rfl rfl k) ?_
    refine own_st (fr' := (mkF m 85 #[.val (.int q), .unset] [(.int (12 : Int32)), (.ref b4), (.ref b4)])) (fun t k => XS.bipush X16.here hx rfl (hb hby d1_83) k) ?_
    refine own_st (fr' := (mkF m 88 #[.val (.int q), .unset] [(.int (133 : Int32)), (.int (12 : Int32)), (.ref b4), (.ref b4)])) (fun t k => XS.sipush X16.here hx rfl (hb hby d1_85) k) ?_
    refine own_castore X16 hx hZ e16 V16 (by decide) (by decide) (hb hby d1_88) ?_
    intro T17 h17 X17 e17 W17 V17
    have N17 := Fr.snoc X17 N16 ge_b4
    refine own_st (fr' := (mkF m 90 #[.val (.int q), .unset] [(.ref b4), (.ref b4)])) (fun t k => XS.dup X17.here hx rfl (hb hby d1_89) rfl rfl k) ?_
    refine own_st (fr' := (mkF m 92 #[.val (.int q), .unset] [(.int (13 : Int32)), (.ref b4), (.ref b4)])) (fun t k => XS.bipush X17.here hx rfl (hb hby d1_90) k) ?_
    refine own_st (fr' := (mkF m 95 #[.val (.int q), .unset] [(.int (160 : Int32)), (.int (13 : Int32)), (.ref b4), (.ref b4)])) (fun t k => XS.sipush X17.here hx rfl (hb hby d1_92) k) ?_
    refine own_castore X17 hx hZ e17 V17 (by decide) (by decide) (hb hby d1_95) ?_
    intro T18 h18 X18 e18 W18 V18
    have N18 := Fr.snoc X18 N17 ge_b4
    refine own_st (fr' := (mkF m 97 #[.val (.int q), .unset] [(.ref b4), (.ref b4)])) (fun t k => XS.dup X18.here hx rfl (hb hby d1_96) rfl rfl k) ?_
    refine own_st (fr' := (mkF m 99 #[.val (.int q), .unset] [(.int (14 : Int32)), (.ref b4), (.ref b4)])) (fun t k => XS.bipush X18.here hx rfl (hb hby d1_97) k) ?_
    refine own_st (fr' := (mkF m 101 #[.val (.int q), .unset] [(.int (127 : Int32)), (.int (14 : Int32)), (.ref b4), (.ref b4)])) (fun t k => XS.bipush X18.here hx rfl (hb hby d1_99) k) ?_
    refine own_castore X18 hx hZ e18 V18 (by decide) (by decide) (hb hby d1_101) ?_
    intro T19 h19 X19 e19 W19 V19
    have N19 := Fr.snoc X19 N18 ge_b4
    refine own_st (fr' := (mkF m 103 #[.val (.int q), .unset] [(.ref b4), (.ref b4)])) (fun t k => XS.dup X19.here hx rfl (hb hby d1_102) rfl rfl k) ?_
    refine own_st (fr' := (mkF m 105 #[.val (.int q), .unset] [(.int (15 : Int32)), (.ref b4), (.ref b4)])) (fun t k => XS.bipush X19.here hx rfl (hb hby d1_103) k) ?_
    refine own_st (fr' := (mkF m 108 #[.val (.int q), .unset] [(.int (12288 : Int32)), (.int (15 : Int32)), (.ref b4), (.ref b4)])) (fun t k => XS.sipush X19.here hx rfl (hb hby d1_105) k) ?_
    refine own_castore X19 hx hZ e19 V19 (by decide) (by decide) (hb hby d1_108) ?_
    intro T20 h20 X20 e20 W20 V20
    have N20 := Fr.snoc X20 N19 ge_b4
    refine own_st (fr' := (mkF m 110 #[.val (.int q), .val (.ref b4)] [])) (fun t k => XS.astoreN X20.here hx rfl (hb hby d1_109) rfl rfl (l' := #[.val (.int q), .val (.ref b4)]) rfl k) ?_
    refine own_st (fr' := (mkF m 111 #[.val (.int q), .val (.ref b4)] [(.ref b4)])) (fun t k => XS.aloadN X20.here hx rfl (hb hby d1_110) rfl rfl k) ?_
    refine own_st (fr' := (mkF m 112 #[.val (.int q), .val (.ref b4)] [(.int q), (.ref b4)])) (fun t k => XS.iloadN X20.here hx rfl (hb hby d1_111) rfl  k) ?_
    refine own_st (fr' := (mkF m 114 #[.val (.int q), .val (.ref b4)] [(.int (15 : Int32)), (.int q), (.ref b4)])) (fun t k => XS.bipush X20.here hx rfl (hb hby d1_112) k) ?_
    refine own_st (fr' := (mkF m 115 #[.val (.int q), .val (.ref b4)] [(.int (q &&& (15 : Int32))), (.ref b4)])) (fun t k => XS.iand X20.here hx rfl (hb hby d1_114) rfl k) ?_
    have qm := c_mask q 15 4 (by decide) (by decide)
    have k16 : (16 : Int32).toInt = 16 := rfl
    obtain ⟨zz, ez, z0, z1⟩ := own_fitc V20 (i := (q &&& 15).toInt.toNat) (by omega)
    refine own_caload (j := (q &&& (15 : Int32))) X20 hx hZ e20 V20 (by omega) (by omega) (v := (.int zz)) (ez) (hb hby d1_115) ?_
    exact own_ret X20 hx hlk hret (own_narc _ z0 z1) (Or.inl ⟨rfl, by simp, _, rfl⟩) (hb hby d1_116) (by decide) (by decide) (by rw [e20]; exact ⟨⟨zz, rfl, z0, z1⟩, N20, (Keep.wr (Keep.wr (Keep.wr (Keep.wr (Keep.wr (Keep.wr (Keep.wr (Keep.wr (Keep.wr (Keep.wr (Keep.wr (Keep.wr (Keep.wr (Keep.wr (Keep.wr (Keep.wr (Keep.ext (Keep.refl h0 []) E4) W5 (Or.inr sz_b4)) W6 (Or.inr sz_b4)) W7 (Or.inr sz_b4)) W8 (Or.inr sz_b4)) W9 (Or.inr sz_b4)) W10 (Or.inr sz_b4)) W11 (Or.inr sz_b4)) W12 (Or.inr sz_b4)) W13 (Or.inr sz_b4)) W14 (Or.inr sz_b4)) W15 (Or.inr sz_b4)) W16 (Or.inr sz_b4)) W17 (Or.inr sz_b4)) W18 (Or.inr sz_b4)) W19 (Or.inr sz_b4)) W20 (Or.inr sz_b4))⟩)
  · refine own_st (fr' := (mkF m 7 #[.val (.int q), .unset] [])) (fun t k => XS.ifNo X0.here hx rfl (hb hby d1_4) rfl ((if0 _ _).trans (own_feq (x := (q &&& (16 : Int32))) (y := (0 : Int32)) h1).1) k) ?_
    refine own_st (fr' := (mkF m 8 #[.val (.int q), .unset] [(.int q)])) (fun t k => XS.iloadN X0.here hx rfl (hb hby d1_7) rfl  k) ?_
    refine own_st (fr' := (mkF m 10 #[.val (.int q), .unset] [(.int (16 : Int32)), (.int q)])) (fun t k => XS.bipush X0.here hx rfl (hb hby d1_8) k) ?_
    refine own_st (fr' := (mkF m 11 #[.val (.int q), .unset] [(.int ((q.toUInt32 >>> ((16 : Int32) &&& 31).toUInt32).toInt32))])) (fun t k => XS.iushr X0.here hx rfl (hb hby d1_10) rfl k) ?_
    refine own_st (fr' := (mkF m 12 #[.val (.int q), .unset] [(.int (((q.toUInt32 >>> ((16 : Int32) &&& 31).toUInt32).toInt32).toUInt32.toUInt16.toUInt32.toInt32))])) (fun t k => XS.i2c X0.here hx rfl (hb hby d1_11) rfl k) ?_
    skip
    have qc := c_i2c (q.toUInt32 >>> ((16 : Int32) &&& 31).toUInt32).toInt32
    exact own_ret X0 hx hlk hret (own_narc _ qc.2.1 (by have := qc.2.2; omega)) (Or.inl ⟨rfl, by simp, _, rfl⟩) (hb hby d1_12) (by decide) (by decide) (by rw [e0]; exact ⟨⟨_, rfl, qc.2.1, by have := qc.2.2; omega⟩, N0, (Keep.refl h0 [])⟩)
theorem d16_0 : decode jdk_52_method_3_code 0 = .ok (.iload_n 0, 1) := by decide +kernel
theorem d16_1 : decode jdk_52_method_3_code 1 = .ok (.ifCond .ge 11, 3) := by decide +kernel
theorem d16_12 : decode jdk_52_method_3_code 12 = .ok (.iload_n 0, 1) := by decide +kernel
theorem d16_13 : decode jdk_52_method_3_code 13 = .ok (.ldc 20, 2) := by decide +kernel
theorem d16_15 : decode jdk_52_method_3_code 15 = .ok (.if_icmp .lt 40, 3) := by decide +kernel
theorem d16_55 : decode jdk_52_method_3_code 55 = .ok (.iload_n 0, 1) := by decide +kernel
theorem d16_56 : decode jdk_52_method_3_code 56 = .ok (.iconst 1, 1) := by decide +kernel
theorem d16_57 : decode jdk_52_method_3_code 57 = .ok (.ishl, 1) := by decide +kernel
theorem d16_58 : decode jdk_52_method_3_code 58 = .ok (.ireturn, 1) := by decide +kernel
theorem ef_nbl (m : MethodId) (q : Int32) : entryFrame m #[(.int q)] 1 = mkF m 0 #[.val (.int q)] [] := by first | (simp [entryFrame, mkF, argsToLocals, Value.category, maxLocals]; done) | rfl
def Q_nbl (Z : State) (q : Int32) (h0 : Heap) (n0 : Nat) : Option Value → Heap → List Loc → Prop := fun v h L => (∃ z : Int32, v = some (.int z) ∧ (z.toInt = 2 * q.toInt)) ∧ Fr n0 L ∧ h = h0
set_option maxRecDepth 65536 in
set_option maxHeartbeats 40000000 in
theorem rm_nbl (l : Launch) (Z : State) (a0 : Array Value) (hw : ∀ d ∈ tables_1, d.before a0 Z = true) (ws : List Jvm.Cond) (q : Int32) (h0 : Heap) (n0 : Nat) (Z0 : n0 ≤ h0.size) (hq : 0 ≤ q.toInt ∧ q.toInt ≤ 5) :
    MetFree l (⟨"java/lang/StringUTF16", "newBytesLength", "(I)I"⟩ : MethodName) (head1 (Jvm.Cond.code (⟨"java/lang/StringUTF16", "newBytesLength", "(I)I"⟩ : MethodName) jdk_52_method_3_code 1 (some .int) :: ws) ({ frames := 0, cells := 0, slots := 0, locals := 0 } : Room)) (fun aX U => aX = #[(.int q)] ∧ Z.Warmed39 U.vm ∧ U.heap = h0) (fun _ _ _ _ _ => True) (fun _ U o U' => ∃ v L, o = .returned v ∧ (Q_nbl Z q h0 n0) v U'.heap L ∧ FrameEnd U o U' L ({ frames := 0, cells := 0, slots := 0, locals := 0 } : Room).cells ({ frames := 0, cells := 0, slots := 0, locals := 0 } : Room).slots) := by
  refine own_met (Q := (Q_nbl Z q h0 n0)) (plainFor_of_name (x := (⟨"java/lang/StringUTF16", "newBytesLength", "(I)I"⟩ : MethodName)) pn_0) (fun m => ef_nbl m q) ?_
  intro p e s m below meth cD s₁ hx hby hml hret hlk hZ hown hnm X0 e0 hs0
  have hown : s.vm.findClass "java/lang/StringUTF16" = some m.cls := hown
  have N0 := Fr.nil n0
  refine own_st (fr' := (mkF m 1 #[.val (.int q)] [(.int q)])) (fun t k => XS.iloadN X0.here hx rfl (hb hby d16_0) rfl  k) ?_
  refine own_st (fr' := (mkF m 12 #[.val (.int q)] [])) (fun t k => XS.ifYes X0.here hx rfl (pc0 := 1) (pc' := 12) rfl (hb hby d16_1) rfl ((if0 _ _).trans (own_flt (x := q) (y := (0 : Int32)) (show ¬ q.toInt < 0 from by omega)).2.1) (by decide) (by decide) k) ?_
  refine own_st (fr' := (mkF m 13 #[.val (.int q)] [(.int q)])) (fun t k => XS.iloadN X0.here hx rfl (hb hby d16_12) rfl  k) ?_
  refine own_st (fr' := (mkF m 15 #[.val (.int q)] [(.int (1073741823 : Int32)), (.int q)])) (fun t k => X0.ldcInt hx hown (mvT hZ (hw _ (List.mem_of_getElem? (i := 76) rfl))) (g := (mkF m 13 #[.val (.int q)] [(.int q)])) rfl (hb hby d16_13) t k) ?_
  refine own_st (fr' := (mkF m 55 #[.val (.int q)] [])) (fun t k => XS.icmpYes X0.here hx rfl (pc0 := 15) (pc' := 55) rfl (hb hby d16_15) rfl (own_tlt (x := q) (y := (1073741823 : Int32)) (show q.toInt < 1073741823 from by omega)).1 (by decide) (by decide) k) ?_
  refine own_st (fr' := (mkF m 56 #[.val (.int q)] [(.int q)])) (fun t k => XS.iloadN X0.here hx rfl (hb hby d16_55) rfl  k) ?_
  refine own_st (fr' := (mkF m 57 #[.val (.int q)] [(.int (1 : Int32)), (.int q)])) (fun t k => XS.iconst X0.here hx rfl (hb hby d16_56) k) ?_
  refine own_st (fr' := (mkF m 58 #[.val (.int q)] [(.int (q <<< ((1 : Int32) &&& 31)))])) (fun t k => XS.ishl X0.here hx rfl (hb hby d16_57) rfl k) ?_
  have s0 := c_ishl q 1 1 (by decide)
  have r0 := rng32 (q <<< ((1 : Int32) &&& 31))
  exact own_retI X0 hx hlk hret (hb hby d16_58) (by decide) (by decide) (⟨⟨_, rfl, by omega⟩, N0, e0⟩)
theorem pd_0 : parseMethodDescriptor "(I)I" = some ⟨[.int], some .int⟩ := by decide +kernel
theorem d15_0 : decode jdk_52_method_2_code 0 = .ok (.iload_n 0, 1) := by decide +kernel
theorem d15_1 : decode jdk_52_method_2_code 1 = .ok (.invokestatic 11, 3) := by decide +kernel
theorem d15_4 : decode jdk_52_method_2_code 4 = .ok (.newarray .byte, 2) := by decide +kernel
theorem d15_6 : decode jdk_52_method_2_code 6 = .ok (.areturn, 1) := by decide +kernel
theorem ef_nbf (m : MethodId) (q : Int32) : entryFrame m #[(.int q)] 1 = mkF m 0 #[.val (.int q)] [] := by first | (simp [entryFrame, mkF, argsToLocals, Value.category, maxLocals]; done) | rfl
def Q_nbf (Z : State) (q : Int32) (h0 : Heap) (n0 : Nat) : Option Value → Heap → List Loc → Prop := fun v h L => (∃ (r : Addr) (nl : Int32), v = some (.ref r) ∧ h0.size ≤ r ∧ n0 ≤ r ∧ nl.toInt = 2 * q.toInt ∧ own_A Z h r .byte nl (fun _ => .int 0)) ∧ Fr n0 L ∧ Keep h0 h []
set_option maxRecDepth 65536 in
set_option maxHeartbeats 40000000 in
theorem rm_nbf (l : Launch) (Z : State) (a0 : Array Value) (hw : ∀ d ∈ tables_1, d.before a0 Z = true) (ws : List Jvm.Cond) (q : Int32) (h0 : Heap) (n0 : Nat) (Z0 : n0 ≤ h0.size) (hq : 0 ≤ q.toInt ∧ q.toInt ≤ 5) :
    MetFree l (⟨"java/lang/StringUTF16", "newBytesFor", "(I)[B"⟩ : MethodName) (head1 (Jvm.Cond.code (⟨"java/lang/StringUTF16", "newBytesFor", "(I)[B"⟩ : MethodName) jdk_52_method_2_code 1 (some (.array .byte)) :: ws) ({ frames := 1, cells := 1, slots := 10, locals := 12 } : Room)) (fun aX U => aX = #[(.int q)] ∧ Z.Warmed39 U.vm ∧ U.heap = h0) (fun _ _ _ _ _ => True) (fun _ U o U' => ∃ v L, o = .returned v ∧ (Q_nbf Z q h0 n0) v U'.heap L ∧ FrameEnd U o U' L ({ frames := 1, cells := 1, slots := 10, locals := 12 } : Room).cells ({ frames := 1, cells := 1, slots := 10, locals := 12 } : Room).slots) := by
  refine own_met (Q := (Q_nbf Z q h0 n0)) (plainFor_of_name (x := (⟨"java/lang/StringUTF16", "newBytesFor", "(I)[B"⟩ : MethodName)) pn_0) (fun m => ef_nbf m q) ?_
  intro p e s m below meth cD s₁ hx hby hml hret hlk hZ hown hnm X0 e0 hs0
  have hown : s.vm.findClass "java/lang/StringUTF16" = some m.cls := hown
  have N0 := Fr.nil n0
  refine own_st (fr' := (mkF m 1 #[.val (.int q)] [(.int q)])) (fun t k => XS.iloadN X0.here hx rfl (hb hby d15_0) rfl  k) ?_
  refine own_callS X0 hx hZ (y := (⟨"java/lang/StringUTF16", "newBytesLength", "(I)I"⟩ : MethodName)) hown (hw _ (List.mem_of_getElem? (i := 73) rfl)) (hw _ (List.mem_of_getElem? (i := 74) rfl)) (hw _ (List.mem_of_getElem? (i := 62) rfl)) (hw _ (List.mem_of_getElem? (i := 75) rfl)) (by decide) (argsL := [(.int q)]) (rest := []) (W := 0) (rm_nbl l Z a0 hw [] q h0 n0 Z0 hq) e0 (by rw [hml]; rfl) (lenOf pd_0 rfl) rfl (Nat.le_of_eq rfl) (hb hby d15_1) (by decide) (by decide) (by decide) (by decide) ?_
  intro v21 T21 L21 X21 hQ21
  obtain ⟨⟨nl, rfl, hnl⟩, Nq21, eq21⟩ := hQ21
  have N21 := Fr.app N0 Nq21
  refine own_newarrE X21 hx hZ (hw _ (List.mem_of_getElem? (i := 23) rfl)) eq21 (hb hby d15_4) (by omega) (cap := 10) (by omega) (by decide) (by decide) (by decide) rfl (C := "[B") rfl ?_
  intro T22 h22 b22 g22 X22 e22 E22 VA22 EX22
  have V22 := own_B.new VA22
  have ge_b22 : n0 ≤ b22 := Nat.le_trans Z0 (Nat.le_of_eq g22.symm)
  have sz_b22 : h0.size ≤ b22 := Nat.le_trans (Nat.le_refl _) (Nat.le_of_eq g22.symm)
  exact own_retA X22 hx hlk hret rfl rfl (hb hby d15_6) (by decide) (by decide) (by rw [e22]; exact ⟨⟨b22, nl, rfl, sz_b22, ge_b22, hnl, VA22⟩, N21, (Keep.ext (Keep.refl h0 []) E22)⟩)
theorem own_put (g : Nat → Value) (i a b : Nat) (c : Int32) (ha : a = 2 * i) (hb : b = 2 * i + 1) : own_P16 (fun k => if k = b then .int (nar .byte ((c >>> ((8 : Int32) &&& 31)).toInt8.toInt32)) else if k = a then .int (nar .byte ((c >>> ((0 : Int32) &&& 31)).toInt8.toInt32)) else g k) i c := by
  have s0 := c_ishr c 0 0 (by decide)
  have s1 := c_ishr c 8 8 (by decide)
  have b0 := c_i2b (c >>> ((0 : Int32) &&& 31))
  have b1 := c_i2b (c >>> ((8 : Int32) &&& 31))
  have d0 := c_i2b ((c >>> ((0 : Int32) &&& 31)).toInt8.toInt32)
  have d1 := c_i2b ((c >>> ((8 : Int32) &&& 31)).toInt8.toInt32)
  subst ha hb
  refine ⟨_, _, by show (if _ then _ else _) = _; rw [if_neg (by omega), if_pos rfl], by show (if _ then _ else _) = _; rw [if_pos rfl], ?_, ?_⟩
  · show (((c >>> ((0 : Int32) &&& 31)).toInt8.toInt32).toInt8.toInt32.toInt - c.toInt) % 256 = 0
    omega
  · show (((c >>> ((8 : Int32) &&& 31)).toInt8.toInt32).toInt8.toInt32.toInt - c.toInt / 256) % 256 = 0
    omega
theorem own_P16.other {g g' : Nat → Value} {i : Nat} {c : Int32} (F : own_P16 g i c) (h0 : g' (2 * i) = g (2 * i)) (h1 : g' (2 * i + 1) = g (2 * i + 1)) : own_P16 g' i c := by
  obtain ⟨z0, z1, e0, e1, r⟩ := F
  exact ⟨z0, z1, h0.trans e0, h1.trans e1, r⟩
theorem d18_0 : decode jdk_52_method_5_code 0 = .ok (.getstatic 44, 3) := by decide +kernel
theorem d18_3 : decode jdk_52_method_5_code 3 = .ok (.ifCond .ne 25, 3) := by decide +kernel
theorem d18_28 : decode jdk_52_method_5_code 28 = .ok (.iload_n 1, 1) := by decide +kernel
theorem d18_29 : decode jdk_52_method_5_code 29 = .ok (.iconst 1, 1) := by decide +kernel
theorem d18_30 : decode jdk_52_method_5_code 30 = .ok (.ishl, 1) := by decide +kernel
theorem d18_31 : decode jdk_52_method_5_code 31 = .ok (.istore_n 1, 1) := by decide +kernel
theorem d18_32 : decode jdk_52_method_5_code 32 = .ok (.aload_n 0, 1) := by decide +kernel
theorem d18_33 : decode jdk_52_method_5_code 33 = .ok (.iload_n 1, 1) := by decide +kernel
theorem d18_34 : decode jdk_52_method_5_code 34 = .ok (.iinc 1 1, 3) := by decide +kernel
theorem d18_37 : decode jdk_52_method_5_code 37 = .ok (.baload, 1) := by decide +kernel
theorem d18_38 : decode jdk_52_method_5_code 38 = .ok (.sipush 255, 3) := by decide +kernel
theorem d18_41 : decode jdk_52_method_5_code 41 = .ok (.iand, 1) := by decide +kernel
theorem d18_42 : decode jdk_52_method_5_code 42 = .ok (.getstatic 59, 3) := by decide +kernel
theorem d18_45 : decode jdk_52_method_5_code 45 = .ok (.ishl, 1) := by decide +kernel
theorem d18_46 : decode jdk_52_method_5_code 46 = .ok (.aload_n 0, 1) := by decide +kernel
theorem d18_47 : decode jdk_52_method_5_code 47 = .ok (.iload_n 1, 1) := by decide +kernel
theorem d18_48 : decode jdk_52_method_5_code 48 = .ok (.baload, 1) := by decide +kernel
theorem d18_49 : decode jdk_52_method_5_code 49 = .ok (.sipush 255, 3) := by decide +kernel
theorem d18_52 : decode jdk_52_method_5_code 52 = .ok (.iand, 1) := by decide +kernel
theorem d18_53 : decode jdk_52_method_5_code 53 = .ok (.getstatic 63, 3) := by decide +kernel
theorem d18_56 : decode jdk_52_method_5_code 56 = .ok (.ishl, 1) := by decide +kernel
theorem d18_57 : decode jdk_52_method_5_code 57 = .ok (.ior, 1) := by decide +kernel
theorem d18_58 : decode jdk_52_method_5_code 58 = .ok (.i2c, 1) := by decide +kernel
theorem d18_59 : decode jdk_52_method_5_code 59 = .ok (.ireturn, 1) := by decide +kernel
theorem ef_getc (m : MethodId) (b : Addr) (ii : Int32) : entryFrame m #[(.ref b), (.int ii)] 2 = mkF m 0 #[.val (.ref b), .val (.int ii)] [] := by first | (simp [entryFrame, mkF, argsToLocals, Value.category, maxLocals]; done) | rfl
def Q_getc (Z : State) (b : Addr) (nb : Int32) (g : Nat → Value) (ii : Int32) (cc : Int32) (cz : Int32) (fv : Value) (h0 : Heap) (n0 : Nat) : Option Value → Heap → List Loc → Prop := fun v h L => v = some (.int cc) ∧ Fr n0 L ∧ h = h0
set_option maxRecDepth 65536 in
set_option maxHeartbeats 40000000 in
theorem rm_getc (l : Launch) (Z : State) (a0 : Array Value) (hw : ∀ d ∈ tables_1, d.before a0 Z = true) (ws : List Jvm.Cond) (b : Addr) (nb : Int32) (g : Nat → Value) (ii : Int32) (cc : Int32) (cz : Int32) (fv : Value) (h0 : Heap) (n0 : Nat) (Z0 : n0 ≤ h0.size) (VB : own_A Z h0 b .byte nb g) (hii : 0 ≤ ii.toInt ∧ 2 * ii.toInt + 1 < nb.toInt ∧ ii.toInt ≤ 1000) (hcc : 0 ≤ cc.toInt ∧ cc.toInt ≤ 65535) (hP : own_P16 g ii.toInt.toNat cc) (S_cs : Sta Z h0 "java/lang/String" "COMPACT_STRINGS" "Z" (.int cz)) (S_fm : Sta Z h0 "jdk/internal/util/Preconditions" "SIOOBE_FORMATTER" "Ljava/util/function/BiFunction;" fv) (S_as : Sta Z h0 "java/lang/StringUTF16" "$assertionsDisabled" "Z" (.int (1 : Int32))) (S_hi : Sta Z h0 "java/lang/StringUTF16" "HI_BYTE_SHIFT" "I" (.int (0 : Int32))) (S_lo : Sta Z h0 "java/lang/StringUTF16" "LO_BYTE_SHIFT" "I" (.int (8 : Int32))) (hcz : ¬ cz.toInt = 0) (hfv : fv.isRef = true) :
    MetFree l (⟨"java/lang/StringUTF16", "getChar", "([BI)C"⟩ : MethodName) (head1 (Jvm.Cond.code (⟨"java/lang/StringUTF16", "getChar", "([BI)C"⟩ : MethodName) jdk_52_method_5_code 2 (some .char) :: ws) ({ frames := 0, cells := 0, slots := 0, locals := 0 } : Room)) (fun aX U => aX = #[(.ref b), (.int ii)] ∧ Z.Warmed39 U.vm ∧ U.heap = h0) (fun _ _ _ _ _ => True) (fun _ U o U' => ∃ v L, o = .returned v ∧ (Q_getc Z b nb g ii cc cz fv h0 n0) v U'.heap L ∧ FrameEnd U o U' L ({ frames := 0, cells := 0, slots := 0, locals := 0 } : Room).cells ({ frames := 0, cells := 0, slots := 0, locals := 0 } : Room).slots) := by
  refine own_met (Q := (Q_getc Z b nb g ii cc cz fv h0 n0)) (plainFor_of_name (x := (⟨"java/lang/StringUTF16", "getChar", "([BI)C"⟩ : MethodName)) pn_0) (fun m => ef_getc m b ii) ?_
  intro p e s m below meth cD s₁ hx hby hml hret hlk hZ hown hnm X0 e0 hs0
  have hown : s.vm.findClass "java/lang/StringUTF16" = some m.cls := hown
  have N0 := Fr.nil n0
  obtain ⟨z0, z1, y0, y1, m0, m1⟩ := hP
  obtain ⟨T23, X23, e23, st23⟩ := getS2 X0 hx hZ hown (host := "") (Or.inl (hw _ (List.mem_of_getElem? (i := 80) rfl))) Via.refl e0 S_as (g := (mkF m 0 #[.val (.ref b), .val (.int ii)] [])) rfl (hb hby d18_0)
  refine own_st (fr' := (mkF m 3 #[.val (.ref b), .val (.int ii)] [(.int (1 : Int32))])) st23 ?_
  refine own_st (fr' := (mkF m 28 #[.val (.ref b), .val (.int ii)] [])) (fun t k => XS.ifYes X23.here hx rfl (pc0 := 3) (pc' := 28) rfl (hb hby d18_3) rfl ((if0 _ _).trans (own_feq (x := (1 : Int32)) (y := (0 : Int32)) (show ¬ 1 = 0 from by decide)).2) (by decide) (by decide) k) ?_
  refine own_st (fr' := (mkF m 29 #[.val (.ref b), .val (.int ii)] [(.int ii)])) (fun t k => XS.iloadN X23.here hx rfl (hb hby d18_28) rfl  k) ?_
  refine own_st (fr' := (mkF m 30 #[.val (.ref b), .val (.int ii)] [(.int (1 : Int32)), (.int ii)])) (fun t k => XS.iconst X23.here hx rfl (hb hby d18_29) k) ?_
  refine own_st (fr' := (mkF m 31 #[.val (.ref b), .val (.int ii)] [(.int (ii <<< ((1 : Int32) &&& 31)))])) (fun t k => XS.ishl X23.here hx rfl (hb hby d18_30) rfl k) ?_
  have s0 := c_ishl ii 1 1 (by decide)
  have r0 := rng32 (ii <<< ((1 : Int32) &&& 31))
  generalize (ii <<< ((1 : Int32) &&& 31)) = j0 at s0 r0 ⊢
  have hj0 : j0.toInt = 2 * ii.toInt := by omega
  have a1 := own_add1 (i := j0) (by omega) (by omega)
  refine own_st (fr' := (mkF m 32 #[.val (.ref b), .val (.int j0)] [])) (fun t k => XS.istoreN X23.here hx rfl (hb hby d18_31) rfl  (l' := #[.val (.ref b), .val (.int j0)]) rfl k) ?_
  refine own_st (fr' := (mkF m 33 #[.val (.ref b), .val (.int j0)] [(.ref b)])) (fun t k => XS.aloadN X23.here hx rfl (hb hby d18_32) rfl rfl k) ?_
  refine own_st (fr' := (mkF m 34 #[.val (.ref b), .val (.int j0)] [(.int j0), (.ref b)])) (fun t k => XS.iloadN X23.here hx rfl (hb hby d18_33) rfl  k) ?_
  refine own_st (fr' := (mkF m 37 #[.val (.ref b), .val (.int (j0 + (1 : Int32)))] [(.int j0), (.ref b)])) (fun t k => XS.iinc X23.here hx rfl (hb hby d18_34) rfl (l' := #[.val (.ref b), .val (.int (j0 + (1 : Int32)))]) rfl k) ?_
  generalize (j0 + (1 : Int32)) = j1 at a1 ⊢
  refine own_baload (j := j0) X23 hx hZ e23 VB (by omega) (by omega) (v := (.int z0)) (by rw [show j0.toInt.toNat = 2 * ii.toInt.toNat from by omega]; exact y0) (hb hby d18_37) ?_
  refine own_st (fr' := (mkF m 41 #[.val (.ref b), .val (.int j1)] [(.int (255 : Int32)), (.int z0)])) (fun t k => XS.sipush X23.here hx rfl (hb hby d18_38) k) ?_
  refine own_st (fr' := (mkF m 42 #[.val (.ref b), .val (.int j1)] [(.int (z0 &&& (255 : Int32)))])) (fun t k => XS.iand X23.here hx rfl (hb hby d18_41) rfl k) ?_
  obtain ⟨T24, X24, e24, st24⟩ := getS2 X23 hx hZ hown (host := "") (Or.inl (hw _ (List.mem_of_getElem? (i := 81) rfl))) Via.refl e23 S_hi (g := (mkF m 42 #[.val (.ref b), .val (.int j1)] [(.int (z0 &&& (255 : Int32)))])) rfl (hb hby d18_42)
  refine own_st (fr' := (mkF m 45 #[.val (.ref b), .val (.int j1)] [(.int (0 : Int32)), (.int (z0 &&& (255 : Int32)))])) st24 ?_
  refine own_st (fr' := (mkF m 46 #[.val (.ref b), .val (.int j1)] [(.int ((z0 &&& (255 : Int32)) <<< ((0 : Int32) &&& 31)))])) (fun t k => XS.ishl X24.here hx rfl (hb hby d18_45) rfl k) ?_
  refine own_st (fr' := (mkF m 47 #[.val (.ref b), .val (.int j1)] [(.ref b), (.int ((z0 &&& (255 : Int32)) <<< ((0 : Int32) &&& 31)))])) (fun t k => XS.aloadN X24.here hx rfl (hb hby d18_46) rfl rfl k) ?_
  refine own_st (fr' := (mkF m 48 #[.val (.ref b), .val (.int j1)] [(.int j1), (.ref b), (.int ((z0 &&& (255 : Int32)) <<< ((0 : Int32) &&& 31)))])) (fun t k => XS.iloadN X24.here hx rfl (hb hby d18_47) rfl  k) ?_
  refine own_baload (j := j1) X24 hx hZ e24 VB (by omega) (by omega) (v := (.int z1)) (by rw [show j1.toInt.toNat = 2 * ii.toInt.toNat + 1 from by omega]; exact y1) (hb hby d18_48) ?_
  refine own_st (fr' := (mkF m 52 #[.val (.ref b), .val (.int j1)] [(.int (255 : Int32)), (.int z1), (.int ((z0 &&& (255 : Int32)) <<< ((0 : Int32) &&& 31)))])) (fun t k => XS.sipush X24.here hx rfl (hb hby d18_49) k) ?_
  refine own_st (fr' := (mkF m 53 #[.val (.ref b), .val (.int j1)] [(.int (z1 &&& (255 : Int32))), (.int ((z0 &&& (255 : Int32)) <<< ((0 : Int32) &&& 31)))])) (fun t k => XS.iand X24.here hx rfl (hb hby d18_52) rfl k) ?_
  obtain ⟨T25, X25, e25, st25⟩ := getS2 X24 hx hZ hown (host := "") (Or.inl (hw _ (List.mem_of_getElem? (i := 82) rfl))) Via.refl e24 S_lo (g := (mkF m 53 #[.val (.ref b), .val (.int j1)] [(.int (z1 &&& (255 : Int32))), (.int ((z0 &&& (255 : Int32)) <<< ((0 : Int32) &&& 31)))])) rfl (hb hby d18_53)
  refine own_st (fr' := (mkF m 56 #[.val (.ref b), .val (.int j1)] [(.int (8 : Int32)), (.int (z1 &&& (255 : Int32))), (.int ((z0 &&& (255 : Int32)) <<< ((0 : Int32) &&& 31)))])) st25 ?_
  refine own_st (fr' := (mkF m 57 #[.val (.ref b), .val (.int j1)] [(.int ((z1 &&& (255 : Int32)) <<< ((8 : Int32) &&& 31))), (.int ((z0 &&& (255 : Int32)) <<< ((0 : Int32) &&& 31)))])) (fun t k => XS.ishl X25.here hx rfl (hb hby d18_56) rfl k) ?_
  refine own_st (fr' := (mkF m 58 #[.val (.ref b), .val (.int j1)] [(.int (((z0 &&& (255 : Int32)) <<< ((0 : Int32) &&& 31)) ||| ((z1 &&& (255 : Int32)) <<< ((8 : Int32) &&& 31))))])) (fun t k => XS.ior X25.here hx rfl (hb hby d18_57) rfl k) ?_
  refine own_st (fr' := (mkF m 59 #[.val (.ref b), .val (.int j1)] [(.int ((((z0 &&& (255 : Int32)) <<< ((0 : Int32) &&& 31)) ||| ((z1 &&& (255 : Int32)) <<< ((8 : Int32) &&& 31))).toUInt32.toUInt16.toUInt32.toInt32))])) (fun t k => XS.i2c X25.here hx rfl (hb hby d18_58) rfl k) ?_
  rw [own_c16 cc z0 z1 hcc.1 hcc.2 m0 m1]
  exact own_ret X25 hx hlk hret (own_narc _ hcc.1 hcc.2) (Or.inl ⟨rfl, by simp, _, rfl⟩) (hb hby d18_59) (by decide) (by decide) (⟨rfl, N0, e25⟩)
theorem d17_0 : decode jdk_52_method_4_code 0 = .ok (.getstatic 44, 3) := by decide +kernel
theorem d17_3 : decode jdk_52_method_4_code 3 = .ok (.ifCond .ne 25, 3) := by decide +kernel
theorem d17_28 : decode jdk_52_method_4_code 28 = .ok (.iload_n 1, 1) := by decide +kernel
theorem d17_29 : decode jdk_52_method_4_code 29 = .ok (.iconst 1, 1) := by decide +kernel
theorem d17_30 : decode jdk_52_method_4_code 30 = .ok (.ishl, 1) := by decide +kernel
theorem d17_31 : decode jdk_52_method_4_code 31 = .ok (.istore_n 1, 1) := by decide +kernel
theorem d17_32 : decode jdk_52_method_4_code 32 = .ok (.aload_n 0, 1) := by decide +kernel
theorem d17_33 : decode jdk_52_method_4_code 33 = .ok (.iload_n 1, 1) := by decide +kernel
theorem d17_34 : decode jdk_52_method_4_code 34 = .ok (.iinc 1 1, 3) := by decide +kernel
theorem d17_37 : decode jdk_52_method_4_code 37 = .ok (.iload_n 2, 1) := by decide +kernel
theorem d17_38 : decode jdk_52_method_4_code 38 = .ok (.getstatic 59, 3) := by decide +kernel
theorem d17_41 : decode jdk_52_method_4_code 41 = .ok (.ishr, 1) := by decide +kernel
theorem d17_42 : decode jdk_52_method_4_code 42 = .ok (.i2b, 1) := by decide +kernel
theorem d17_43 : decode jdk_52_method_4_code 43 = .ok (.bastore, 1) := by decide +kernel
theorem d17_44 : decode jdk_52_method_4_code 44 = .ok (.aload_n 0, 1) := by decide +kernel
theorem d17_45 : decode jdk_52_method_4_code 45 = .ok (.iload_n 1, 1) := by decide +kernel
theorem d17_46 : decode jdk_52_method_4_code 46 = .ok (.iload_n 2, 1) := by decide +kernel
theorem d17_47 : decode jdk_52_method_4_code 47 = .ok (.getstatic 63, 3) := by decide +kernel
theorem d17_50 : decode jdk_52_method_4_code 50 = .ok (.ishr, 1) := by decide +kernel
theorem d17_51 : decode jdk_52_method_4_code 51 = .ok (.i2b, 1) := by decide +kernel
theorem d17_52 : decode jdk_52_method_4_code 52 = .ok (.bastore, 1) := by decide +kernel
theorem d17_53 : decode jdk_52_method_4_code 53 = .ok (.return_, 1) := by decide +kernel
theorem ef_putc (m : MethodId) (b : Addr) (ii : Int32) (cc : Int32) : entryFrame m #[(.ref b), (.int ii), (.int cc)] 3 = mkF m 0 #[.val (.ref b), .val (.int ii), .val (.int cc)] [] := by first | (simp [entryFrame, mkF, argsToLocals, Value.category, maxLocals]; done) | rfl
def Q_putc (Z : State) (b : Addr) (nb : Int32) (g : Nat → Value) (ii : Int32) (cc : Int32) (cz : Int32) (fv : Value) (h0 : Heap) (n0 : Nat) : Option Value → Heap → List Loc → Prop := fun v h L => (∃ g' : Nat → Value, v = none ∧ own_A Z h b .byte nb g' ∧ own_P16 g' ii.toInt.toNat cc ∧ ∀ k : Nat, k ≠ 2 * ii.toInt.toNat → k ≠ 2 * ii.toInt.toNat + 1 → g' k = g k) ∧ Fr n0 L ∧ Keep h0 h [b]
set_option maxRecDepth 65536 in
set_option maxHeartbeats 40000000 in
theorem rm_putc (l : Launch) (Z : State) (a0 : Array Value) (hw : ∀ d ∈ tables_1, d.before a0 Z = true) (ws : List Jvm.Cond) (b : Addr) (nb : Int32) (g : Nat → Value) (ii : Int32) (cc : Int32) (cz : Int32) (fv : Value) (h0 : Heap) (n0 : Nat) (Z0 : n0 ≤ h0.size) (VB : own_A Z h0 b .byte nb g) (hii : 0 ≤ ii.toInt ∧ 2 * ii.toInt + 1 < nb.toInt ∧ ii.toInt ≤ 1000) (hcc : 0 ≤ cc.toInt ∧ cc.toInt ≤ 65535) (ge_b : n0 ≤ b) (S_cs : Sta Z h0 "java/lang/String" "COMPACT_STRINGS" "Z" (.int cz)) (S_fm : Sta Z h0 "jdk/internal/util/Preconditions" "SIOOBE_FORMATTER" "Ljava/util/function/BiFunction;" fv) (S_as : Sta Z h0 "java/lang/StringUTF16" "$assertionsDisabled" "Z" (.int (1 : Int32))) (S_hi : Sta Z h0 "java/lang/StringUTF16" "HI_BYTE_SHIFT" "I" (.int (0 : Int32))) (S_lo : Sta Z h0 "java/lang/StringUTF16" "LO_BYTE_SHIFT" "I" (.int (8 : Int32))) (hcz : ¬ cz.toInt = 0) (hfv : fv.isRef = true) :
    MetFree l (⟨"java/lang/StringUTF16", "putChar", "([BII)V"⟩ : MethodName) (head1 (Jvm.Cond.code (⟨"java/lang/StringUTF16", "putChar", "([BII)V"⟩ : MethodName) jdk_52_method_4_code 3 none :: ws) ({ frames := 0, cells := 0, slots := 0, locals := 0 } : Room)) (fun aX U => aX = #[(.ref b), (.int ii), (.int cc)] ∧ Z.Warmed39 U.vm ∧ U.heap = h0) (fun _ _ _ _ _ => True) (fun _ U o U' => ∃ v L, o = .returned v ∧ (Q_putc Z b nb g ii cc cz fv h0 n0) v U'.heap L ∧ FrameEnd U o U' L ({ frames := 0, cells := 0, slots := 0, locals := 0 } : Room).cells ({ frames := 0, cells := 0, slots := 0, locals := 0 } : Room).slots) := by
  refine own_met (Q := (Q_putc Z b nb g ii cc cz fv h0 n0)) (plainFor_of_name (x := (⟨"java/lang/StringUTF16", "putChar", "([BII)V"⟩ : MethodName)) pn_0) (fun m => ef_putc m b ii cc) ?_
  intro p e s m below meth cD s₁ hx hby hml hret hlk hZ hown hnm X0 e0 hs0
  have hown : s.vm.findClass "java/lang/StringUTF16" = some m.cls := hown
  have N0 := Fr.nil n0
  obtain ⟨T26, X26, e26, st26⟩ := getS2 X0 hx hZ hown (host := "") (Or.inl (hw _ (List.mem_of_getElem? (i := 80) rfl))) Via.refl e0 S_as (g := (mkF m 0 #[.val (.ref b), .val (.int ii), .val (.int cc)] [])) rfl (hb hby d17_0)
  refine own_st (fr' := (mkF m 3 #[.val (.ref b), .val (.int ii), .val (.int cc)] [(.int (1 : Int32))])) st26 ?_
  refine own_st (fr' := (mkF m 28 #[.val (.ref b), .val (.int ii), .val (.int cc)] [])) (fun t k => XS.ifYes X26.here hx rfl (pc0 := 3) (pc' := 28) rfl (hb hby d17_3) rfl ((if0 _ _).trans (own_feq (x := (1 : Int32)) (y := (0 : Int32)) (show ¬ 1 = 0 from by decide)).2) (by decide) (by decide) k) ?_
  refine own_st (fr' := (mkF m 29 #[.val (.ref b), .val (.int ii), .val (.int cc)] [(.int ii)])) (fun t k => XS.iloadN X26.here hx rfl (hb hby d17_28) rfl  k) ?_
  refine own_st (fr' := (mkF m 30 #[.val (.ref b), .val (.int ii), .val (.int cc)] [(.int (1 : Int32)), (.int ii)])) (fun t k => XS.iconst X26.here hx rfl (hb hby d17_29) k) ?_
  refine own_st (fr' := (mkF m 31 #[.val (.ref b), .val (.int ii), .val (.int cc)] [(.int (ii <<< ((1 : Int32) &&& 31)))])) (fun t k => XS.ishl X26.here hx rfl (hb hby d17_30) rfl k) ?_
  have s0 := c_ishl ii 1 1 (by decide)
  have r0 := rng32 (ii <<< ((1 : Int32) &&& 31))
  generalize (ii <<< ((1 : Int32) &&& 31)) = j0 at s0 r0 ⊢
  have hj0 : j0.toInt = 2 * ii.toInt := by omega
  have a1 := own_add1 (i := j0) (by omega) (by omega)
  refine own_st (fr' := (mkF m 32 #[.val (.ref b), .val (.int j0), .val (.int cc)] [])) (fun t k => XS.istoreN X26.here hx rfl (hb hby d17_31) rfl  (l' := #[.val (.ref b), .val (.int j0), .val (.int cc)]) rfl k) ?_
  refine own_st (fr' := (mkF m 33 #[.val (.ref b), .val (.int j0), .val (.int cc)] [(.ref b)])) (fun t k => XS.aloadN X26.here hx rfl (hb hby d17_32) rfl rfl k) ?_
  refine own_st (fr' := (mkF m 34 #[.val (.ref b), .val (.int j0), .val (.int cc)] [(.int j0), (.ref b)])) (fun t k => XS.iloadN X26.here hx rfl (hb hby d17_33) rfl  k) ?_
  refine own_st (fr' := (mkF m 37 #[.val (.ref b), .val (.int (j0 + (1 : Int32))), .val (.int cc)] [(.int j0), (.ref b)])) (fun t k => XS.iinc X26.here hx rfl (hb hby d17_34) rfl (l' := #[.val (.ref b), .val (.int (j0 + (1 : Int32))), .val (.int cc)]) rfl k) ?_
  generalize (j0 + (1 : Int32)) = j1 at a1 ⊢
  refine own_st (fr' := (mkF m 38 #[.val (.ref b), .val (.int j1), .val (.int cc)] [(.int cc), (.int j0), (.ref b)])) (fun t k => XS.iloadN X26.here hx rfl (hb hby d17_37) rfl  k) ?_
  obtain ⟨T27, X27, e27, st27⟩ := getS2 X26 hx hZ hown (host := "") (Or.inl (hw _ (List.mem_of_getElem? (i := 81) rfl))) Via.refl e26 S_hi (g := (mkF m 38 #[.val (.ref b), .val (.int j1), .val (.int cc)] [(.int cc), (.int j0), (.ref b)])) rfl (hb hby d17_38)
  refine own_st (fr' := (mkF m 41 #[.val (.ref b), .val (.int j1), .val (.int cc)] [(.int (0 : Int32)), (.int cc), (.int j0), (.ref b)])) st27 ?_
  refine own_st (fr' := (mkF m 42 #[.val (.ref b), .val (.int j1), .val (.int cc)] [(.int (cc >>> ((0 : Int32) &&& 31))), (.int j0), (.ref b)])) (fun t k => XS.ishr X27.here hx rfl (hb hby d17_41) rfl k) ?_
  refine own_st (fr' := (mkF m 43 #[.val (.ref b), .val (.int j1), .val (.int cc)] [(.int ((cc >>> ((0 : Int32) &&& 31)).toInt8.toInt32)), (.int j0), (.ref b)])) (fun t k => XS.i2b X27.here hx rfl (hb hby d17_42) rfl k) ?_
  refine own_bastore X27 hx hZ e27 VB (by omega) (by omega) (hb hby d17_43) ?_
  intro T28 h28 X28 e28 W28 V28
  have N28 := Fr.snoc X28 N0 ge_b
  refine own_st (fr' := (mkF m 45 #[.val (.ref b), .val (.int j1), .val (.int cc)] [(.ref b)])) (fun t k => XS.aloadN X28.here hx rfl (hb hby d17_44) rfl rfl k) ?_
  refine own_st (fr' := (mkF m 46 #[.val (.ref b), .val (.int j1), .val (.int cc)] [(.int j1), (.ref b)])) (fun t k => XS.iloadN X28.here hx rfl (hb hby d17_45) rfl  k) ?_
  refine own_st (fr' := (mkF m 47 #[.val (.ref b), .val (.int j1), .val (.int cc)] [(.int cc), (.int j1), (.ref b)])) (fun t k => XS.iloadN X28.here hx rfl (hb hby d17_46) rfl  k) ?_
  obtain ⟨T29, X29, e29, st29⟩ := getS2 X28 hx hZ hown (host := "") (Or.inl (hw _ (List.mem_of_getElem? (i := 82) rfl))) Via.refl e28 (Sta.wr W28 S_lo) (g := (mkF m 47 #[.val (.ref b), .val (.int j1), .val (.int cc)] [(.int cc), (.int j1), (.ref b)])) rfl (hb hby d17_47)
  refine own_st (fr' := (mkF m 50 #[.val (.ref b), .val (.int j1), .val (.int cc)] [(.int (8 : Int32)), (.int cc), (.int j1), (.ref b)])) st29 ?_
  refine own_st (fr' := (mkF m 51 #[.val (.ref b), .val (.int j1), .val (.int cc)] [(.int (cc >>> ((8 : Int32) &&& 31))), (.int j1), (.ref b)])) (fun t k => XS.ishr X29.here hx rfl (hb hby d17_50) rfl k) ?_
  refine own_st (fr' := (mkF m 52 #[.val (.ref b), .val (.int j1), .val (.int cc)] [(.int ((cc >>> ((8 : Int32) &&& 31)).toInt8.toInt32)), (.int j1), (.ref b)])) (fun t k => XS.i2b X29.here hx rfl (hb hby d17_51) rfl k) ?_
  refine own_bastore X29 hx hZ e29 V28 (by omega) (by omega) (hb hby d17_52) ?_
  intro T30 h30 X30 e30 W30 V30
  have N30 := Fr.snoc X30 N28 ge_b
  exact own_retV X30 hx hlk hret (hb hby d17_53) (by decide) (by decide) (by rw [e30]; exact ⟨⟨_, rfl, V30, own_put g ii.toInt.toNat _ _ cc (by omega) (by omega), fun k k0 k1 => by show (if k = j1.toInt.toNat then _ else if k = j0.toInt.toNat then _ else _) = _; rw [if_neg (by omega), if_neg (by omega)]⟩, N30, (Keep.wr (Keep.wr (Keep.refl h0 [b]) W28 (Or.inl (List.mem_of_getElem? (i := 0) rfl))) W30 (Or.inl (List.mem_of_getElem? (i := 0) rfl)))⟩)
theorem pd_1 : parseMethodDescriptor "(I)[B" = some ⟨[.int], some (.array .byte)⟩ := by decide +kernel
theorem pd_2 : parseMethodDescriptor "([BII)V" = some ⟨[(.array .byte), .int, .int], none⟩ := by decide +kernel
theorem d14_0 : decode jdk_52_method_14_code 0 = .ok (.iload_n 2, 1) := by decide +kernel
theorem d14_1 : decode jdk_52_method_14_code 1 = .ok (.invokestatic 107, 3) := by decide +kernel
theorem d14_4 : decode jdk_52_method_14_code 4 = .ok (.astore_n 3, 1) := by decide +kernel
theorem d14_5 : decode jdk_52_method_14_code 5 = .ok (.iconst 0, 1) := by decide +kernel
theorem d14_6 : decode jdk_52_method_14_code 6 = .ok (.istore 4, 2) := by decide +kernel
theorem d14_8 : decode jdk_52_method_14_code 8 = .ok (.iload 4, 2) := by decide +kernel
theorem d14_10 : decode jdk_52_method_14_code 10 = .ok (.iload_n 2, 1) := by decide +kernel
theorem d14_11 : decode jdk_52_method_14_code 11 = .ok (.if_icmp .ge 21, 3) := by decide +kernel
theorem d14_14 : decode jdk_52_method_14_code 14 = .ok (.aload_n 3, 1) := by decide +kernel
theorem d14_15 : decode jdk_52_method_14_code 15 = .ok (.iload 4, 2) := by decide +kernel
theorem d14_17 : decode jdk_52_method_14_code 17 = .ok (.aload_n 0, 1) := by decide +kernel
theorem d14_18 : decode jdk_52_method_14_code 18 = .ok (.iload_n 1, 1) := by decide +kernel
theorem d14_19 : decode jdk_52_method_14_code 19 = .ok (.caload, 1) := by decide +kernel
theorem d14_20 : decode jdk_52_method_14_code 20 = .ok (.invokestatic 111, 3) := by decide +kernel
theorem d14_23 : decode jdk_52_method_14_code 23 = .ok (.iinc 1 1, 3) := by decide +kernel
theorem d14_26 : decode jdk_52_method_14_code 26 = .ok (.iinc 4 1, 3) := by decide +kernel
theorem d14_29 : decode jdk_52_method_14_code 29 = .ok (.goto (-21), 3) := by decide +kernel
theorem d14_32 : decode jdk_52_method_14_code 32 = .ok (.aload_n 3, 1) := by decide +kernel
theorem d14_33 : decode jdk_52_method_14_code 33 = .ok (.areturn, 1) := by decide +kernel
theorem ef_toby (m : MethodId) (va : Addr) (q : Int32) : entryFrame m #[(.ref va), (.int (0 : Int32)), (.int q)] 5 = mkF m 0 #[.val (.ref va), .val (.int (0 : Int32)), .val (.int q), .unset, .unset] [] := by first | (simp [entryFrame, mkF, argsToLocals, Value.category, maxLocals]; done) | rfl
def Q_toby (Z : State) (va : Addr) (q : Int32) (cs : Nat → Int32) (cz : Int32) (fv : Value) (h0 : Heap) (n0 : Nat) : Option Value → Heap → List Loc → Prop := fun v h L => (∃ (r : Addr) (nl : Int32) (g : Nat → Value), v = some (.ref r) ∧ h0.size ≤ r ∧ n0 ≤ r ∧ nl.toInt = 2 * q.toInt ∧ own_A Z h r .byte nl g ∧ own_S16 g q.toInt cs) ∧ Fr n0 L ∧ Keep h0 h []
set_option maxRecDepth 65536 in
set_option maxHeartbeats 40000000 in
theorem rm_toby (l : Launch) (Z : State) (a0 : Array Value) (hw : ∀ d ∈ tables_1, d.before a0 Z = true) (ws : List Jvm.Cond) (va : Addr) (q : Int32) (cs : Nat → Int32) (cz : Int32) (fv : Value) (h0 : Heap) (n0 : Nat) (Z0 : n0 ≤ h0.size) (VV : own_A Z h0 va .char q (fun i => Value.int (cs i))) (hq : 0 ≤ q.toInt ∧ q.toInt ≤ 5) (hR : own_Rg cs) (S_cs : Sta Z h0 "java/lang/String" "COMPACT_STRINGS" "Z" (.int cz)) (S_fm : Sta Z h0 "jdk/internal/util/Preconditions" "SIOOBE_FORMATTER" "Ljava/util/function/BiFunction;" fv) (S_as : Sta Z h0 "java/lang/StringUTF16" "$assertionsDisabled" "Z" (.int (1 : Int32))) (S_hi : Sta Z h0 "java/lang/StringUTF16" "HI_BYTE_SHIFT" "I" (.int (0 : Int32))) (S_lo : Sta Z h0 "java/lang/StringUTF16" "LO_BYTE_SHIFT" "I" (.int (8 : Int32))) (hcz : ¬ cz.toInt = 0) (hfv : fv.isRef = true) :
    MetFree l (⟨"java/lang/StringUTF16", "toBytes", "([CII)[B"⟩ : MethodName) (head1 (Jvm.Cond.code (⟨"java/lang/StringUTF16", "toBytes", "([CII)[B"⟩ : MethodName) jdk_52_method_14_code 5 (some (.array .byte)) :: ws) ({ frames := 2, cells := 1, slots := 10, locals := 24 } : Room)) (fun aX U => aX = #[(.ref va), (.int (0 : Int32)), (.int q)] ∧ Z.Warmed39 U.vm ∧ U.heap = h0) (fun _ _ _ _ _ => True) (fun _ U o U' => ∃ v L, o = .returned v ∧ (Q_toby Z va q cs cz fv h0 n0) v U'.heap L ∧ FrameEnd U o U' L ({ frames := 2, cells := 1, slots := 10, locals := 24 } : Room).cells ({ frames := 2, cells := 1, slots := 10, locals := 24 } : Room).slots) := by
  refine own_met (Q := (Q_toby Z va q cs cz fv h0 n0)) (plainFor_of_name (x := (⟨"java/lang/StringUTF16", "toBytes", "([CII)[B"⟩ : MethodName)) pn_0) (fun m => ef_toby m va q) ?_
  intro p e s m below meth cD s₁ hx hby hml hret hlk hZ hown hnm X0 e0 hs0
  have hown : s.vm.findClass "java/lang/StringUTF16" = some m.cls := hown
  have N0 := Fr.nil n0
  refine own_st (fr' := (mkF m 1 #[.val (.ref va), .val (.int (0 : Int32)), .val (.int q), .unset, .unset] [(.int q)])) (fun t k => XS.iloadN X0.here hx rfl (hb hby d14_0) rfl  k) ?_
  refine own_callS X0 hx hZ (y := (⟨"java/lang/StringUTF16", "newBytesFor", "(I)[B"⟩ : MethodName)) hown (hw _ (List.mem_of_getElem? (i := 70) rfl)) (hw _ (List.mem_of_getElem? (i := 71) rfl)) (hw _ (List.mem_of_getElem? (i := 62) rfl)) (hw _ (List.mem_of_getElem? (i := 72) rfl)) (by decide) (argsL := [(.int q)]) (rest := []) (W := 0) (rm_nbf l Z a0 hw [] q h0 n0 Z0 hq) e0 (by rw [hml]; rfl) (lenOf pd_1 rfl) rfl (Nat.le_of_eq rfl) (hb hby d14_1) (by decide) (by decide) (by decide) (by decide) ?_
  intro v31 T31 L31 X31 hQ31
  obtain ⟨⟨r, nl, rfl, hr, ge_r, hnl, VR⟩, Nq31, K31⟩ := hQ31
  have N31 := Fr.app N0 Nq31
  have nev : va ≠ r := Nat.ne_of_lt (Nat.lt_of_lt_of_le VV.lt hr)
  refine own_st (fr' := (mkF m 5 #[.val (.ref va), .val (.int (0 : Int32)), .val (.int q), .val (.ref r), .unset] [])) (fun t k => XS.astoreN X31.here hx rfl (hb hby d14_4) rfl rfl (l' := #[.val (.ref va), .val (.int (0 : Int32)), .val (.int q), .val (.ref r), .unset]) rfl k) ?_
  refine own_st (fr' := (mkF m 6 #[.val (.ref va), .val (.int (0 : Int32)), .val (.int q), .val (.ref r), .unset] [(.int (0 : Int32))])) (fun t k => XS.iconst X31.here hx rfl (hb hby d14_5) k) ?_
  refine own_st (fr' := (mkF m 8 #[.val (.ref va), .val (.int (0 : Int32)), .val (.int q), .val (.ref r), .val (.int (0 : Int32))] [])) (fun t k => XS.istore X31.here hx rfl (hb hby d14_6) rfl  (l' := #[.val (.ref va), .val (.int (0 : Int32)), .val (.int q), .val (.ref r), .val (.int (0 : Int32))]) rfl k) ?_
  suffices LP32 : ∀ (k : Nat) (T : State) (hh : Heap) (LL : List Loc) (i : Int32) (gg : Nat → Value), (Stand p l e ({ frames := 2, cells := 1, slots := 10, locals := 24 } : Room) s m #[(.ref va), (.int (0 : Int32)), (.int q)] below meth cD T LL (0 + 1) (0 + 10)) → (T.heap = hh) → (Fr n0 LL) → (i.toInt + k = q.toInt) → (0 ≤ i.toInt) → (own_A Z hh va .char q (fun i => Value.int (cs i))) → (own_A Z hh r .byte nl gg) → (own_S16 gg i.toInt cs) → (Keep h0 hh []) → (Sta Z hh "java/lang/String" "COMPACT_STRINGS" "Z" (.int cz)) → (Sta Z hh "jdk/internal/util/Preconditions" "SIOOBE_FORMATTER" "Ljava/util/function/BiFunction;" fv) → (Sta Z hh "java/lang/StringUTF16" "$assertionsDisabled" "Z" (.int (1 : Int32))) → (Sta Z hh "java/lang/StringUTF16" "HI_BYTE_SHIFT" "I" (.int (0 : Int32))) → (Sta Z hh "java/lang/StringUTF16" "LO_BYTE_SHIFT" "I" (.int (8 : Int32))) → Go p e below (.plain s) ({ frames := 2, cells := 1, slots := 10, locals := 24 } : Room).cells ({ frames := 2, cells := 1, slots := 10, locals := 24 } : Room).slots (Q_toby Z va q cs cz fv h0 n0) T (mkF m 8 #[.val (.ref va), .val (.int i), .val (.int q), .val (.ref r), .val (.int i)] []) by
    exact LP32 q.toInt.toNat _ _ _ 0 _ X31 rfl N31 (by show (0 : Int) + _ = _; omega) (by decide) (VV.keep K31 nin0) VR (fun j hj => absurd hj (by show ¬ (j : Int) < 0; omega)) K31 (own_sk0 S_cs K31) (own_sk0 S_fm K31) (own_sk0 S_as K31) (own_sk0 S_hi K31) (own_sk0 S_lo K31)
  intro k
  induction k with
  | zero =>
    intro T hh LL i gg X eT NL hk hi VV VR Hg KK S_cs S_fm S_as S_hi S_lo
    refine own_st (fr' := (mkF m 10 #[.val (.ref va), .val (.int i), .val (.int q), .val (.ref r), .val (.int i)] [(.int i)])) (fun t k => XS.iload X.here hx rfl (hb hby d14_8) rfl  k) ?_
    refine own_st (fr' := (mkF m 11 #[.val (.ref va), .val (.int i), .val (.int q), .val (.ref r), .val (.int i)] [(.int q), (.int i)])) (fun t k => XS.iloadN X.here hx rfl (hb hby d14_10) rfl  k) ?_
    refine own_st (fr' := (mkF m 32 #[.val (.ref va), .val (.int i), .val (.int q), .val (.ref r), .val (.int i)] [])) (fun t k => XS.icmpYes X.here hx rfl (pc0 := 11) (pc' := 32) rfl (hb hby d14_11) rfl (own_flt (x := i) (y := q) (show ¬ i.toInt < q.toInt from by omega)).2.1 (by decide) (by decide) k) ?_
    refine own_st (fr' := (mkF m 33 #[.val (.ref va), .val (.int i), .val (.int q), .val (.ref r), .val (.int i)] [(.ref r)])) (fun t k => XS.aloadN X.here hx rfl (hb hby d14_32) rfl rfl k) ?_
    exact own_retA X hx hlk hret rfl rfl (hb hby d14_33) (by decide) (by decide) (by rw [eT]; exact ⟨⟨r, nl, gg, rfl, hr, ge_r, hnl, VR, by rw [show q.toInt = i.toInt from by omega]; exact Hg⟩, NL, KK⟩)
  | succ k ih =>
    intro T hh LL i gg X eT NL hk hi VV VR Hg KK S_cs S_fm S_as S_hi S_lo
    refine own_st (fr' := (mkF m 10 #[.val (.ref va), .val (.int i), .val (.int q), .val (.ref r), .val (.int i)] [(.int i)])) (fun t k => XS.iload X.here hx rfl (hb hby d14_8) rfl  k) ?_
    refine own_st (fr' := (mkF m 11 #[.val (.ref va), .val (.int i), .val (.int q), .val (.ref r), .val (.int i)] [(.int q), (.int i)])) (fun t k => XS.iloadN X.here hx rfl (hb hby d14_10) rfl  k) ?_
    refine own_st (fr' := (mkF m 14 #[.val (.ref va), .val (.int i), .val (.int q), .val (.ref r), .val (.int i)] [])) (fun t k => XS.icmpNo X.here hx rfl (hb hby d14_11) rfl (own_tlt (x := i) (y := q) (show i.toInt < q.toInt from by omega)).2.1 k) ?_
    refine own_st (fr' := (mkF m 15 #[.val (.ref va), .val (.int i), .val (.int q), .val (.ref r), .val (.int i)] [(.ref r)])) (fun t k => XS.aloadN X.here hx rfl (hb hby d14_14) rfl rfl k) ?_
    refine own_st (fr' := (mkF m 17 #[.val (.ref va), .val (.int i), .val (.int q), .val (.ref r), .val (.int i)] [(.int i), (.ref r)])) (fun t k => XS.iload X.here hx rfl (hb hby d14_15) rfl  k) ?_
    refine own_st (fr' := (mkF m 18 #[.val (.ref va), .val (.int i), .val (.int q), .val (.ref r), .val (.int i)] [(.ref va), (.int i), (.ref r)])) (fun t k => XS.aloadN X.here hx rfl (hb hby d14_17) rfl rfl k) ?_
    refine own_st (fr' := (mkF m 19 #[.val (.ref va), .val (.int i), .val (.int q), .val (.ref r), .val (.int i)] [(.int i), (.ref va), (.int i), (.ref r)])) (fun t k => XS.iloadN X.here hx rfl (hb hby d14_18) rfl  k) ?_
    refine own_caload (j := i) X hx hZ eT VV (by omega) (by omega) (v := (.int (cs i.toInt.toNat))) (rfl) (hb hby d14_19) ?_
    refine own_callS X hx hZ (y := (⟨"java/lang/StringUTF16", "putChar", "([BII)V"⟩ : MethodName)) hown (hw _ (List.mem_of_getElem? (i := 77) rfl)) (hw _ (List.mem_of_getElem? (i := 78) rfl)) (hw _ (List.mem_of_getElem? (i := 62) rfl)) (hw _ (List.mem_of_getElem? (i := 79) rfl)) (by decide) (argsL := [(.ref r), (.int i), (.int (cs i.toInt.toNat))]) (rest := []) (W := 0) (rm_putc l Z a0 hw [] r nl gg i (cs i.toInt.toNat) cz fv hh n0 (Nat.le_trans Z0 KK.1) VR ⟨hi, by omega, by omega⟩ (hR _) ge_r S_cs S_fm S_as S_hi S_lo hcz hfv) eT (by rw [hml]; rfl) (lenOf pd_2 rfl) rfl (Nat.le_of_eq rfl) (hb hby d14_20) (by decide) (by decide) (by decide) (by decide) ?_
    intro v33 T33 L33 X33 hQ33
    obtain ⟨⟨g2, rfl, VR2, P2, O2⟩, Nq33, K33⟩ := hQ33
    have N33 := Fr.app NL Nq33
    have a1 := own_add1 (i := i) hi (by omega)
    refine own_st (fr' := (mkF m 26 #[.val (.ref va), .val (.int (i + (1 : Int32))), .val (.int q), .val (.ref r), .val (.int i)] [])) (fun t k => XS.iinc X33.here hx rfl (hb hby d14_23) rfl (l' := #[.val (.ref va), .val (.int (i + (1 : Int32))), .val (.int q), .val (.ref r), .val (.int i)]) rfl k) ?_
    refine own_st (fr' := (mkF m 29 #[.val (.ref va), .val (.int (i + (1 : Int32))), .val (.int q), .val (.ref r), .val (.int (i + (1 : Int32)))] [])) (fun t k => XS.iinc X33.here hx rfl (hb hby d14_26) rfl (l' := #[.val (.ref va), .val (.int (i + (1 : Int32))), .val (.int q), .val (.ref r), .val (.int (i + (1 : Int32)))]) rfl k) ?_
    refine own_st (fr' := (mkF m 8 #[.val (.ref va), .val (.int (i + (1 : Int32))), .val (.int q), .val (.ref r), .val (.int (i + (1 : Int32)))] [])) (fun t k => XS.goto X33.here hx rfl (pc0 := 29) (pc' := 8) rfl (hb hby d14_29) (by decide) (by decide) k) ?_
    refine ih _ _ _ (i + 1) g2 X33 rfl N33 (by omega) (by omega) (VV.keep K33 (ninS nev nin0)) VR2 (fun j hj => ?_) (Keep.trans KK K33 (allS (Or.inr hr) all0)) (own_skA S_cs K33 VR) (own_skA S_fm K33 VR) (own_skA S_as K33 VR) (own_skA S_hi K33 VR) (own_skA S_lo K33 VR)
    by_cases hj2 : (j : Int) < i.toInt
    · exact (Hg j hj2).other (O2 _ (by omega) (by omega)) (O2 _ (by omega) (by omega))
    · have e1 : j = i.toInt.toNat := by omega
      subst e1; exact P2
def own_By (g : Nat → Value) (nb n : Int32) (cs : Nat → Int32) (cod : Int32) : Prop := (cod = 0 ∧ nb.toInt = n.toInt ∧ own_S8 g n.toInt cs) ∨ (cod = 1 ∧ nb.toInt = 2 * n.toInt ∧ own_S16 g n.toInt cs ∧ ∃ i : Nat, (i : Int) < n.toInt ∧ 255 < (cs i).toInt)
theorem own_By.cod {g : Nat → Value} {nb n : Int32} {cs : Nat → Int32} {cod zc : Int32} (F : own_By g nb n cs cod) (hn : 1 ≤ n.toInt) (hz : (nb.toInt ≤ n.toInt ∧ zc = 0) ∨ (n.toInt < nb.toInt ∧ zc = 1)) : zc = cod := by
  rcases F with ⟨rfl, h1, -⟩ | ⟨rfl, h1, -⟩ <;> rcases hz with ⟨h2, h3⟩ | ⟨h2, h3⟩
  · exact h3
  · omega
  · omega
  · exact h3
theorem own_By.b {g : Nat → Value} {nb n : Int32} {cs : Nat → Int32} {cod : Int32} (F : own_By g nb n cs cod) : cod = 0 ∨ cod = 1 := by
  rcases F with ⟨rfl, -⟩ | ⟨rfl, -⟩ <;> simp
theorem own_By.n {g : Nat → Value} {nb n : Int32} {cs : Nat → Int32} {cod : Int32} (F : own_By g nb n cs cod) (h0 : 0 ≤ n.toInt) : nb.toInt ≤ 2 * n.toInt := by
  rcases F with ⟨rfl, h, -⟩ | ⟨rfl, h, -⟩ <;> omega
theorem pd_3 : parseMethodDescriptor "([CI[BII)I" = some ⟨[(.array .char), .int, (.array .byte), .int, .int], some .int⟩ := by decide +kernel
theorem pd_4 : parseMethodDescriptor "([CII)[B" = some ⟨[(.array .char), .int, .int], some (.array .byte)⟩ := by decide +kernel
theorem pd_5 : parseMethodDescriptor "([BI)C" = some ⟨[(.array .byte), .int], some .char⟩ := by decide +kernel
theorem d12_0 : decode jdk_52_method_16_code 0 = .ok (.iload_n 2, 1) := by decide +kernel
theorem d12_1 : decode jdk_52_method_16_code 1 = .ok (.newarray .byte, 2) := by decide +kernel
theorem d12_3 : decode jdk_52_method_16_code 3 = .ok (.astore_n 3, 1) := by decide +kernel
theorem d12_4 : decode jdk_52_method_16_code 4 = .ok (.aload_n 0, 1) := by decide +kernel
theorem d12_5 : decode jdk_52_method_16_code 5 = .ok (.iload_n 1, 1) := by decide +kernel
theorem d12_6 : decode jdk_52_method_16_code 6 = .ok (.aload_n 3, 1) := by decide +kernel
theorem d12_7 : decode jdk_52_method_16_code 7 = .ok (.iconst 0, 1) := by decide +kernel
theorem d12_8 : decode jdk_52_method_16_code 8 = .ok (.iload_n 2, 1) := by decide +kernel
theorem d12_9 : decode jdk_52_method_16_code 9 = .ok (.invokestatic 115, 3) := by decide +kernel
theorem d12_12 : decode jdk_52_method_16_code 12 = .ok (.istore 4, 2) := by decide +kernel
theorem d12_14 : decode jdk_52_method_16_code 14 = .ok (.iload 4, 2) := by decide +kernel
theorem d12_16 : decode jdk_52_method_16_code 16 = .ok (.iload_n 2, 1) := by decide +kernel
theorem d12_17 : decode jdk_52_method_16_code 17 = .ok (.if_icmp .eq 40, 3) := by decide +kernel
theorem d12_20 : decode jdk_52_method_16_code 20 = .ok (.aload_n 0, 1) := by decide +kernel
theorem d12_21 : decode jdk_52_method_16_code 21 = .ok (.iload_n 1, 1) := by decide +kernel
theorem d12_22 : decode jdk_52_method_16_code 22 = .ok (.iload_n 2, 1) := by decide +kernel
theorem d12_23 : decode jdk_52_method_16_code 23 = .ok (.invokestatic 119, 3) := by decide +kernel
theorem d12_26 : decode jdk_52_method_16_code 26 = .ok (.astore 5, 2) := by decide +kernel
theorem d12_28 : decode jdk_52_method_16_code 28 = .ok (.aload 5, 2) := by decide +kernel
theorem d12_30 : decode jdk_52_method_16_code 30 = .ok (.iload 4, 2) := by decide +kernel
theorem d12_32 : decode jdk_52_method_16_code 32 = .ok (.invokestatic 71, 3) := by decide +kernel
theorem d12_35 : decode jdk_52_method_16_code 35 = .ok (.sipush 255, 3) := by decide +kernel
theorem d12_38 : decode jdk_52_method_16_code 38 = .ok (.if_icmp .gt 16, 3) := by decide +kernel
theorem d12_54 : decode jdk_52_method_16_code 54 = .ok (.aload 5, 2) := by decide +kernel
theorem d12_56 : decode jdk_52_method_16_code 56 = .ok (.areturn, 1) := by decide +kernel
theorem d12_57 : decode jdk_52_method_16_code 57 = .ok (.aload_n 3, 1) := by decide +kernel
theorem d12_58 : decode jdk_52_method_16_code 58 = .ok (.areturn, 1) := by decide +kernel
theorem ef_compA (m : MethodId) (va : Addr) (q : Int32) : entryFrame m #[(.ref va), (.int (0 : Int32)), (.int q)] 6 = mkF m 0 #[.val (.ref va), .val (.int (0 : Int32)), .val (.int q), .unset, .unset, .unset] [] := by first | (simp [entryFrame, mkF, argsToLocals, Value.category, maxLocals]; done) | rfl
def Q_compA (Z : State) (va : Addr) (q : Int32) (cs : Nat → Int32) (cz : Int32) (fv : Value) (h0 : Heap) (n0 : Nat) : Option Value → Heap → List Loc → Prop := fun v h L => (∃ (r : Addr) (nb : Int32) (g : Nat → Value) (cod : Int32), v = some (.ref r) ∧ h0.size ≤ r ∧ own_A Z h r .byte nb g ∧ own_By g nb q cs cod) ∧ Fr n0 L ∧ Keep h0 h []
set_option maxRecDepth 65536 in
set_option maxHeartbeats 40000000 in
theorem rm_compA (l : Launch) (Z : State) (a0 : Array Value) (hw : ∀ d ∈ tables_1, d.before a0 Z = true) (ws : List Jvm.Cond) (va : Addr) (q : Int32) (cs : Nat → Int32) (cz : Int32) (fv : Value) (h0 : Heap) (n0 : Nat) (Z0 : n0 ≤ h0.size) (VV : own_A Z h0 va .char q (fun i => Value.int (cs i))) (hq : 0 ≤ q.toInt ∧ q.toInt ≤ 5) (hR : own_Rg cs) (S_cs : Sta Z h0 "java/lang/String" "COMPACT_STRINGS" "Z" (.int cz)) (S_fm : Sta Z h0 "jdk/internal/util/Preconditions" "SIOOBE_FORMATTER" "Ljava/util/function/BiFunction;" fv) (S_as : Sta Z h0 "java/lang/StringUTF16" "$assertionsDisabled" "Z" (.int (1 : Int32))) (S_hi : Sta Z h0 "java/lang/StringUTF16" "HI_BYTE_SHIFT" "I" (.int (0 : Int32))) (S_lo : Sta Z h0 "java/lang/StringUTF16" "LO_BYTE_SHIFT" "I" (.int (8 : Int32))) (hcz : ¬ cz.toInt = 0) (hfv : fv.isRef = true) :
    MetFree l (⟨"java/lang/StringUTF16", "compress", "([CII)[B"⟩ : MethodName) (head1 (Jvm.Cond.code (⟨"java/lang/StringUTF16", "compress", "([CII)[B"⟩ : MethodName) jdk_52_method_16_code 6 (some (.array .byte)) :: ws) ({ frames := 3, cells := 2, slots := 15, locals := 40 } : Room)) (fun aX U => aX = #[(.ref va), (.int (0 : Int32)), (.int q)] ∧ Z.Warmed39 U.vm ∧ U.heap = h0) (fun _ _ _ _ _ => True) (fun _ U o U' => ∃ v L, o = .returned v ∧ (Q_compA Z va q cs cz fv h0 n0) v U'.heap L ∧ FrameEnd U o U' L ({ frames := 3, cells := 2, slots := 15, locals := 40 } : Room).cells ({ frames := 3, cells := 2, slots := 15, locals := 40 } : Room).slots) := by
  refine own_met (Q := (Q_compA Z va q cs cz fv h0 n0)) (plainFor_of_name (x := (⟨"java/lang/StringUTF16", "compress", "([CII)[B"⟩ : MethodName)) pn_0) (fun m => ef_compA m va q) ?_
  intro p e s m below meth cD s₁ hx hby hml hret hlk hZ hown hnm X0 e0 hs0
  have hown : s.vm.findClass "java/lang/StringUTF16" = some m.cls := hown
  have N0 := Fr.nil n0
  refine own_st (fr' := (mkF m 1 #[.val (.ref va), .val (.int (0 : Int32)), .val (.int q), .unset, .unset, .unset] [(.int q)])) (fun t k => XS.iloadN X0.here hx rfl (hb hby d12_0) rfl  k) ?_
  refine own_newarrE X0 hx hZ (hw _ (List.mem_of_getElem? (i := 23) rfl)) e0 (hb hby d12_1) (hq.1) (cap := 5) (hq.2) (by decide) (by decide) (by decide) rfl (C := "[B") rfl ?_
  intro T34 h34 b34 g34 X34 e34 E34 VA34 EX34
  have V34 := own_B.new VA34
  have lt34_va : va < b34 := Nat.lt_of_lt_of_eq VV.lt g34.symm
  have ne34_va : va ≠ b34 := Nat.ne_of_lt lt34_va
  have ge_b34 : n0 ≤ b34 := Nat.le_trans Z0 (Nat.le_of_eq g34.symm)
  have sz_b34 : h0.size ≤ b34 := Nat.le_trans (Nat.le_refl _) (Nat.le_of_eq g34.symm)
  refine own_st (fr' := (mkF m 4 #[.val (.ref va), .val (.int (0 : Int32)), .val (.int q), .val (.ref b34), .unset, .unset] [])) (fun t k => XS.astoreN X34.here hx rfl (hb hby d12_3) rfl rfl (l' := #[.val (.ref va), .val (.int (0 : Int32)), .val (.int q), .val (.ref b34), .unset, .unset]) rfl k) ?_
  refine own_st (fr' := (mkF m 5 #[.val (.ref va), .val (.int (0 : Int32)), .val (.int q), .val (.ref b34), .unset, .unset] [(.ref va)])) (fun t k => XS.aloadN X34.here hx rfl (hb hby d12_4) rfl rfl k) ?_
  refine own_st (fr' := (mkF m 6 #[.val (.ref va), .val (.int (0 : Int32)), .val (.int q), .val (.ref b34), .unset, .unset] [(.int (0 : Int32)), (.ref va)])) (fun t k => XS.iloadN X34.here hx rfl (hb hby d12_5) rfl  k) ?_
  refine own_st (fr' := (mkF m 7 #[.val (.ref va), .val (.int (0 : Int32)), .val (.int q), .val (.ref b34), .unset, .unset] [(.ref b34), (.int (0 : Int32)), (.ref va)])) (fun t k => XS.aloadN X34.here hx rfl (hb hby d12_6) rfl rfl k) ?_
  refine own_st (fr' := (mkF m 8 #[.val (.ref va), .val (.int (0 : Int32)), .val (.int q), .val (.ref b34), .unset, .unset] [(.int (0 : Int32)), (.ref b34), (.int (0 : Int32)), (.ref va)])) (fun t k => XS.iconst X34.here hx rfl (hb hby d12_7) k) ?_
  refine own_st (fr' := (mkF m 9 #[.val (.ref va), .val (.int (0 : Int32)), .val (.int q), .val (.ref b34), .unset, .unset] [(.int q), (.int (0 : Int32)), (.ref b34), (.int (0 : Int32)), (.ref va)])) (fun t k => XS.iloadN X34.here hx rfl (hb hby d12_8) rfl  k) ?_
  refine own_callS X34 hx hZ (y := (⟨"java/lang/StringUTF16", "compress", "([CI[BII)I"⟩ : MethodName)) hown (hw _ (List.mem_of_getElem? (i := 64) rfl)) (hw _ (List.mem_of_getElem? (i := 65) rfl)) (hw _ (List.mem_of_getElem? (i := 62) rfl)) (hw _ (List.mem_of_getElem? (i := 66) rfl)) (by decide) (argsL := [(.ref va), (.int (0 : Int32)), (.ref b34), (.int (0 : Int32)), (.int q)]) (rest := []) (W := 0) (rm_cloop l Z a0 hw [] va b34 q cs _ h34 n0 (Nat.le_trans Z0 E34.1) (VV.ext E34) VA34 ne34_va ge_b34 hq) e34 (by rw [hml]; rfl) (lenOf pd_3 rfl) rfl (Nat.le_of_eq rfl) (hb hby d12_9) (by decide) (by decide) (by decide) (by decide) ?_
  intro v35 T35 L35 X35 hQ35
  obtain ⟨⟨kk, g, rfl, k1, k2, k3, k4, VR, Hg⟩, Nq35, K35⟩ := hQ35
  have N35 := Fr.app N0 Nq35
  refine own_st (fr' := (mkF m 14 #[.val (.ref va), .val (.int (0 : Int32)), .val (.int q), .val (.ref b34), .val (.int kk), .unset] [])) (fun t k => XS.istore X35.here hx rfl (hb hby d12_12) rfl  (l' := #[.val (.ref va), .val (.int (0 : Int32)), .val (.int q), .val (.ref b34), .val (.int kk), .unset]) rfl k) ?_
  refine own_st (fr' := (mkF m 16 #[.val (.ref va), .val (.int (0 : Int32)), .val (.int q), .val (.ref b34), .val (.int kk), .unset] [(.int kk)])) (fun t k => XS.iload X35.here hx rfl (hb hby d12_14) rfl  k) ?_
  refine own_st (fr' := (mkF m 17 #[.val (.ref va), .val (.int (0 : Int32)), .val (.int q), .val (.ref b34), .val (.int kk), .unset] [(.int q), (.int kk)])) (fun t k => XS.iloadN X35.here hx rfl (hb hby d12_16) rfl  k) ?_
  by_cases hkq : kk.toInt = q.toInt
  · refine own_st (fr' := (mkF m 57 #[.val (.ref va), .val (.int (0 : Int32)), .val (.int q), .val (.ref b34), .val (.int kk), .unset] [])) (fun t k => XS.icmpYes X35.here hx rfl (pc0 := 17) (pc' := 57) rfl (hb hby d12_17) rfl (own_teq (x := kk) (y := q) hkq).1 (by decide) (by decide) k) ?_
    refine own_st (fr' := (mkF m 58 #[.val (.ref va), .val (.int (0 : Int32)), .val (.int q), .val (.ref b34), .val (.int kk), .unset] [(.ref b34)])) (fun t k => XS.aloadN X35.here hx rfl (hb hby d12_57) rfl rfl k) ?_
    exact own_retA X35 hx hlk hret rfl rfl (hb hby d12_58) (by decide) (by decide) (⟨⟨b34, q, g, 0, rfl, sz_b34, VR, Or.inl ⟨rfl, rfl, fun i hi => ⟨k3 i (by omega), _, Hg i (by omega), by have b0 := c_i2b (cs i); have b1 := c_i2b ((cs i).toInt8.toInt32); show (((cs i).toInt8.toInt32).toInt8.toInt32.toInt - _) % 256 = 0; omega⟩⟩⟩, N35, (Keep.trans (Keep.ext (Keep.refl h0 []) E34) K35 (allS (Or.inr sz_b34) all0))⟩)
  · refine own_st (fr' := (mkF m 20 #[.val (.ref va), .val (.int (0 : Int32)), .val (.int q), .val (.ref b34), .val (.int kk), .unset] [])) (fun t k => XS.icmpNo X35.here hx rfl (hb hby d12_17) rfl (own_feq (x := kk) (y := q) hkq).1 k) ?_
    refine own_st (fr' := (mkF m 21 #[.val (.ref va), .val (.int (0 : Int32)), .val (.int q), .val (.ref b34), .val (.int kk), .unset] [(.ref va)])) (fun t k => XS.aloadN X35.here hx rfl (hb hby d12_20) rfl rfl k) ?_
    refine own_st (fr' := (mkF m 22 #[.val (.ref va), .val (.int (0 : Int32)), .val (.int q), .val (.ref b34), .val (.int kk), .unset] [(.int (0 : Int32)), (.ref va)])) (fun t k => XS.iloadN X35.here hx rfl (hb hby d12_21) rfl  k) ?_
    refine own_st (fr' := (mkF m 23 #[.val (.ref va), .val (.int (0 : Int32)), .val (.int q), .val (.ref b34), .val (.int kk), .unset] [(.int q), (.int (0 : Int32)), (.ref va)])) (fun t k => XS.iloadN X35.here hx rfl (hb hby d12_22) rfl  k) ?_
    refine own_callS X35 hx hZ (y := (⟨"java/lang/StringUTF16", "toBytes", "([CII)[B"⟩ : MethodName)) hown (hw _ (List.mem_of_getElem? (i := 67) rfl)) (hw _ (List.mem_of_getElem? (i := 68) rfl)) (hw _ (List.mem_of_getElem? (i := 62) rfl)) (hw _ (List.mem_of_getElem? (i := 69) rfl)) (by decide) (argsL := [(.ref va), (.int (0 : Int32)), (.int q)]) (rest := []) (W := 0) (rm_toby l Z a0 hw [] va q cs cz fv T35.heap n0 (Nat.le_trans (Nat.le_trans Z0 E34.1) K35.1) ((VV.ext E34).keep K35 (ninS ne34_va nin0)) hq hR (own_skA (Sta.ext E34 S_cs) K35 VA34) (own_skA (Sta.ext E34 S_fm) K35 VA34) (own_skA (Sta.ext E34 S_as) K35 VA34) (own_skA (Sta.ext E34 S_hi) K35 VA34) (own_skA (Sta.ext E34 S_lo) K35 VA34) hcz hfv) rfl (by rw [hml]; rfl) (lenOf pd_4 rfl) rfl (Nat.le_of_eq rfl) (hb hby d12_23) (by decide) (by decide) (by decide) (by decide) ?_
    intro v36 T36 L36 X36 hQ36
    obtain ⟨⟨r2, nl, g2, rfl, hr2, ge_r2, hnl, VR2, H16⟩, Nq36, K36⟩ := hQ36
    have N36 := Fr.app N35 Nq36
    have hbig := k4 (by omega)
    have sr2 : h0.size ≤ r2 := Nat.le_trans (Nat.le_trans (Nat.le_trans (Nat.le_refl _) E34.1) K35.1) hr2
    refine own_st (fr' := (mkF m 28 #[.val (.ref va), .val (.int (0 : Int32)), .val (.int q), .val (.ref b34), .val (.int kk), .val (.ref r2)] [])) (fun t k => XS.astore X36.here hx rfl (hb hby d12_26) rfl rfl (l' := #[.val (.ref va), .val (.int (0 : Int32)), .val (.int q), .val (.ref b34), .val (.int kk), .val (.ref r2)]) rfl k) ?_
    refine own_st (fr' := (mkF m 30 #[.val (.ref va), .val (.int (0 : Int32)), .val (.int q), .val (.ref b34), .val (.int kk), .val (.ref r2)] [(.ref r2)])) (fun t k => XS.aload X36.here hx rfl (hb hby d12_28) rfl rfl k) ?_
    refine own_st (fr' := (mkF m 32 #[.val (.ref va), .val (.int (0 : Int32)), .val (.int q), .val (.ref b34), .val (.int kk), .val (.ref r2)] [(.int kk), (.ref r2)])) (fun t k => XS.iload X36.here hx rfl (hb hby d12_30) rfl  k) ?_
    refine own_callS X36 hx hZ (y := (⟨"java/lang/StringUTF16", "getChar", "([BI)C"⟩ : MethodName)) hown (hw _ (List.mem_of_getElem? (i := 83) rfl)) (hw _ (List.mem_of_getElem? (i := 84) rfl)) (hw _ (List.mem_of_getElem? (i := 62) rfl)) (hw _ (List.mem_of_getElem? (i := 85) rfl)) (by decide) (argsL := [(.ref r2), (.int kk)]) (rest := []) (W := 0) (rm_getc l Z a0 hw [] r2 nl g2 kk (cs kk.toInt.toNat) cz fv T36.heap n0 (Nat.le_trans (Nat.le_trans (Nat.le_trans Z0 E34.1) K35.1) K36.1) VR2 ⟨k1, by omega, by omega⟩ (hR _) (H16 _ (by omega)) (own_sk0 (own_skA (Sta.ext E34 S_cs) K35 VA34) K36) (own_sk0 (own_skA (Sta.ext E34 S_fm) K35 VA34) K36) (own_sk0 (own_skA (Sta.ext E34 S_as) K35 VA34) K36) (own_sk0 (own_skA (Sta.ext E34 S_hi) K35 VA34) K36) (own_sk0 (own_skA (Sta.ext E34 S_lo) K35 VA34) K36) hcz hfv) rfl (by rw [hml]; rfl) (lenOf pd_5 rfl) rfl (Nat.le_of_eq rfl) (hb hby d12_32) (by decide) (by decide) (by decide) (by decide) ?_
    intro v37 T37 L37 X37 hQ37
    obtain ⟨rfl, Nq37, eq37⟩ := hQ37
    have N37 := Fr.app N36 Nq37
    refine own_st (fr' := (mkF m 38 #[.val (.ref va), .val (.int (0 : Int32)), .val (.int q), .val (.ref b34), .val (.int kk), .val (.ref r2)] [(.int (255 : Int32)), (.int (cs kk.toInt.toNat))])) (fun t k => XS.sipush X37.here hx rfl (hb hby d12_35) k) ?_
    refine own_st (fr' := (mkF m 54 #[.val (.ref va), .val (.int (0 : Int32)), .val (.int q), .val (.ref b34), .val (.int kk), .val (.ref r2)] [])) (fun t k => XS.icmpYes X37.here hx rfl (pc0 := 38) (pc' := 54) rfl (hb hby d12_38) rfl (own_tlt (x := (255 : Int32)) (y := (cs kk.toInt.toNat)) (show 255 < (cs kk.toInt.toNat).toInt from hbig)).2.2.1 (by decide) (by decide) k) ?_
    refine own_st (fr' := (mkF m 56 #[.val (.ref va), .val (.int (0 : Int32)), .val (.int q), .val (.ref b34), .val (.int kk), .val (.ref r2)] [(.ref r2)])) (fun t k => XS.aload X37.here hx rfl (hb hby d12_54) rfl rfl k) ?_
    exact own_retA X37 hx hlk hret rfl rfl (hb hby d12_56) (by decide) (by decide) (by rw [eq37]; exact ⟨⟨r2, nl, g2, 1, rfl, sr2, VR2, Or.inr ⟨rfl, hnl, H16, kk.toInt.toNat, by omega, hbig⟩⟩, N37, (Keep.trans (Keep.trans (Keep.ext (Keep.refl h0 []) E34) K35 (allS (Or.inr sz_b34) all0)) K36 all0)⟩)
theorem pd_6 : parseMethodDescriptor "([BI)B" = some ⟨[(.array .byte), .int], some .byte⟩ := by decide +kernel
theorem d4_0 : decode jdk_42_method_149_code 0 = .ok (.aload_n 0, 1) := by decide +kernel
theorem d4_1 : decode jdk_42_method_149_code 1 = .ok (.invokespecial 1, 3) := by decide +kernel
theorem d4_4 : decode jdk_42_method_149_code 4 = .ok (.iload_n 3, 1) := by decide +kernel
theorem d4_5 : decode jdk_42_method_149_code 5 = .ok (.ifCond .ne 22, 3) := by decide +kernel
theorem d4_27 : decode jdk_42_method_149_code 27 = .ok (.getstatic 38, 3) := by decide +kernel
theorem d4_30 : decode jdk_42_method_149_code 30 = .ok (.ifCond .eq 28, 3) := by decide +kernel
theorem d4_33 : decode jdk_42_method_149_code 33 = .ok (.aload_n 1, 1) := by decide +kernel
theorem d4_34 : decode jdk_42_method_149_code 34 = .ok (.iload_n 2, 1) := by decide +kernel
theorem d4_35 : decode jdk_42_method_149_code 35 = .ok (.iload_n 3, 1) := by decide +kernel
theorem d4_36 : decode jdk_42_method_149_code 36 = .ok (.invokestatic 177, 3) := by decide +kernel
theorem d4_39 : decode jdk_42_method_149_code 39 = .ok (.astore 5, 2) := by decide +kernel
theorem d4_41 : decode jdk_42_method_149_code 41 = .ok (.aload_n 0, 1) := by decide +kernel
theorem d4_42 : decode jdk_42_method_149_code 42 = .ok (.aload 5, 2) := by decide +kernel
theorem d4_44 : decode jdk_42_method_149_code 44 = .ok (.iload_n 3, 1) := by decide +kernel
theorem d4_45 : decode jdk_42_method_149_code 45 = .ok (.invokestatic 47, 3) := by decide +kernel
theorem d4_48 : decode jdk_42_method_149_code 48 = .ok (.putfield 15, 3) := by decide +kernel
theorem d4_51 : decode jdk_42_method_149_code 51 = .ok (.aload_n 0, 1) := by decide +kernel
theorem d4_52 : decode jdk_42_method_149_code 52 = .ok (.aload 5, 2) := by decide +kernel
theorem d4_54 : decode jdk_42_method_149_code 54 = .ok (.putfield 9, 3) := by decide +kernel
theorem d4_57 : decode jdk_42_method_149_code 57 = .ok (.return_, 1) := by decide +kernel
theorem pn_2 : plainName "java/lang/String" = true := by first | (simp [plainName, overriddenIn]; done) | decide +kernel
theorem ef_siA (m : MethodId) (va : Addr) (q : Int32) : entryFrame m #[(.ref x'), (.ref va), (.int (0 : Int32)), (.int q), .null] 6 = mkF m 0 #[.val (.ref x'), .val (.ref va), .val (.int (0 : Int32)), .val (.int q), .val .null, .unset] [] := by first | (simp [entryFrame, mkF, argsToLocals, Value.category, maxLocals]; done) | rfl
def Q_siA (Z : State) (x' : Addr) (va : Addr) (q : Int32) (cs : Nat → Int32) (cz : Int32) (fv : Value) (h0 : Heap) (n0 : Nat) : Option Value → Heap → List Loc → Prop := fun v h L => (∃ (r : Addr) (nb : Int32) (g : Nat → Value) (cod : Int32), v = none ∧ h0.size ≤ r ∧ own_A Z h r .byte nb g ∧ own_By g nb q cs cod ∧ Fld Z h x' "java/lang/String" "value" "[B" (.ref r) ∧ Fld Z h x' "java/lang/String" "coder" "B" (.int cod)) ∧ Fr n0 L ∧ Keep h0 h [x']
set_option maxRecDepth 65536 in
set_option maxHeartbeats 40000000 in
theorem rm_siA (l : Launch) (Z : State) (a0 : Array Value) (hw : ∀ d ∈ tables_1, d.before a0 Z = true) (ws : List Jvm.Cond) (x' : Addr) (va : Addr) (q : Int32) (cs : Nat → Int32) (cz : Int32) (fv : Value) (h0 : Heap) (n0 : Nat) (Z0 : n0 ≤ h0.size) (E0 : Exa Z h0 x' "java/lang/String") (Fv0 : Fld Z h0 x' "java/lang/String" "value" "[B" .null) (Fc0 : Fld Z h0 x' "java/lang/String" "coder" "B" (.int 0)) (VV : own_A Z h0 va .char q (fun i => Value.int (cs i))) (hq : 1 ≤ q.toInt ∧ q.toInt ≤ 5) (hR : own_Rg cs) (ge_x' : n0 ≤ x') (S_cs : Sta Z h0 "java/lang/String" "COMPACT_STRINGS" "Z" (.int cz)) (S_fm : Sta Z h0 "jdk/internal/util/Preconditions" "SIOOBE_FORMATTER" "Ljava/util/function/BiFunction;" fv) (S_as : Sta Z h0 "java/lang/StringUTF16" "$assertionsDisabled" "Z" (.int (1 : Int32))) (S_hi : Sta Z h0 "java/lang/StringUTF16" "HI_BYTE_SHIFT" "I" (.int (0 : Int32))) (S_lo : Sta Z h0 "java/lang/StringUTF16" "LO_BYTE_SHIFT" "I" (.int (8 : Int32))) (hcz : ¬ cz.toInt = 0) (hfv : fv.isRef = true) :
    MetFree l (⟨"java/lang/String", "<init>", "([CIILjava/lang/Void;)V"⟩ : MethodName) (head1 (Jvm.Cond.code (⟨"java/lang/String", "<init>", "([CIILjava/lang/Void;)V"⟩ : MethodName) jdk_42_method_149_code 6 none :: ws) ({ frames := 4, cells := 2, slots := 15, locals := 57 } : Room)) (fun aX U => aX = #[(.ref x'), (.ref va), (.int (0 : Int32)), (.int q), .null] ∧ Z.Warmed39 U.vm ∧ U.heap = h0) (fun _ _ _ _ _ => True) (fun _ U o U' => ∃ v L, o = .returned v ∧ (Q_siA Z x' va q cs cz fv h0 n0) v U'.heap L ∧ FrameEnd U o U' L ({ frames := 4, cells := 2, slots := 15, locals := 57 } : Room).cells ({ frames := 4, cells := 2, slots := 15, locals := 57 } : Room).slots) := by
  refine own_met (Q := (Q_siA Z x' va q cs cz fv h0 n0)) (plainFor_of_name (x := (⟨"java/lang/String", "<init>", "([CIILjava/lang/Void;)V"⟩ : MethodName)) pn_2) (fun m => ef_siA m va q) ?_
  intro p e s m below meth cD s₁ hx hby hml hret hlk hZ hown hnm X0 e0 hs0
  have hown : s.vm.findClass "java/lang/String" = some m.cls := hown
  have N0 := Fr.nil n0
  have hq5 : 0 ≤ q.toInt ∧ q.toInt ≤ 5 := ⟨by omega, hq.2⟩
  refine own_st (fr' := (mkF m 1 #[.val (.ref x'), .val (.ref va), .val (.int (0 : Int32)), .val (.int q), .val .null, .unset] [(.ref x')])) (fun t k => XS.aloadN X0.here hx rfl (hb hby d4_0) rfl rfl k) ?_
  obtain ⟨T38, X38, e38, st38⟩ := initO X0 hx hZ hown (hw _ (List.mem_of_getElem? (i := 19) rfl)) (hw _ (List.mem_of_getElem? (i := 20) rfl)) (hw _ (List.mem_of_getElem? (i := 21) rfl)) e0 (g := (mkF m 1 #[.val (.ref x'), .val (.ref va), .val (.int (0 : Int32)), .val (.int q), .val .null, .unset] [(.ref x')])) rfl (by rw [hml]; rfl) rfl (hb hby d4_1) (by decide) (W := 0) (by show 2 * 0 + _ ≤ _; exact Nat.le_of_eq rfl) (by decide)
  refine own_st (fr' := (mkF m 4 #[.val (.ref x'), .val (.ref va), .val (.int (0 : Int32)), .val (.int q), .val .null, .unset] [])) st38 ?_
  refine own_st (fr' := (mkF m 5 #[.val (.ref x'), .val (.ref va), .val (.int (0 : Int32)), .val (.int q), .val .null, .unset] [(.int q)])) (fun t k => XS.iloadN X38.here hx rfl (hb hby d4_4) rfl  k) ?_
  refine own_st (fr' := (mkF m 27 #[.val (.ref x'), .val (.ref va), .val (.int (0 : Int32)), .val (.int q), .val .null, .unset] [])) (fun t k => XS.ifYes X38.here hx rfl (pc0 := 5) (pc' := 27) rfl (hb hby d4_5) rfl ((if0 _ _).trans (own_feq (x := q) (y := (0 : Int32)) (show ¬ q.toInt = 0 from by omega)).2) (by decide) (by decide) k) ?_
  obtain ⟨T39, X39, e39, st39⟩ := getS2 X38 hx hZ hown (host := "") (Or.inl (hw _ (List.mem_of_getElem? (i := 44) rfl))) Via.refl e38 S_cs (g := (mkF m 27 #[.val (.ref x'), .val (.ref va), .val (.int (0 : Int32)), .val (.int q), .val .null, .unset] [])) rfl (hb hby d4_27)
  refine own_st (fr' := (mkF m 30 #[.val (.ref x'), .val (.ref va), .val (.int (0 : Int32)), .val (.int q), .val .null, .unset] [(.int cz)])) st39 ?_
  refine own_st (fr' := (mkF m 33 #[.val (.ref x'), .val (.ref va), .val (.int (0 : Int32)), .val (.int q), .val .null, .unset] [])) (fun t k => XS.ifNo X39.here hx rfl (hb hby d4_30) rfl ((if0 _ _).trans (own_feq (x := cz) (y := (0 : Int32)) (show ¬ cz.toInt = 0 from hcz)).1) k) ?_
  refine own_st (fr' := (mkF m 34 #[.val (.ref x'), .val (.ref va), .val (.int (0 : Int32)), .val (.int q), .val .null, .unset] [(.ref va)])) (fun t k => XS.aloadN X39.here hx rfl (hb hby d4_33) rfl rfl k) ?_
  refine own_st (fr' := (mkF m 35 #[.val (.ref x'), .val (.ref va), .val (.int (0 : Int32)), .val (.int q), .val .null, .unset] [(.int (0 : Int32)), (.ref va)])) (fun t k => XS.iloadN X39.here hx rfl (hb hby d4_34) rfl  k) ?_
  refine own_st (fr' := (mkF m 36 #[.val (.ref x'), .val (.ref va), .val (.int (0 : Int32)), .val (.int q), .val .null, .unset] [(.int q), (.int (0 : Int32)), (.ref va)])) (fun t k => XS.iloadN X39.here hx rfl (hb hby d4_35) rfl  k) ?_
  refine own_callS X39 hx hZ (y := (⟨"java/lang/StringUTF16", "compress", "([CII)[B"⟩ : MethodName)) hown (hw _ (List.mem_of_getElem? (i := 60) rfl)) (hw _ (List.mem_of_getElem? (i := 61) rfl)) (hw _ (List.mem_of_getElem? (i := 62) rfl)) (hw _ (List.mem_of_getElem? (i := 63) rfl)) (by decide) (argsL := [(.ref va), (.int (0 : Int32)), (.int q)]) (rest := []) (W := 0) (rm_compA l Z a0 hw [] va q cs cz fv h0 n0 Z0 VV hq5 hR S_cs S_fm S_as S_hi S_lo hcz hfv) e39 (by rw [hml]; rfl) (lenOf pd_4 rfl) rfl (Nat.le_of_eq rfl) (hb hby d4_36) (by decide) (by decide) (by decide) (by decide) ?_
  intro v40 T40 L40 X40 hQ40
  obtain ⟨⟨r, nb, g, cod, rfl, hr, VR, HB⟩, Nq40, K40⟩ := hQ40
  have N40 := Fr.app N0 Nq40
  have hnb := HB.n hq5.1
  have hnb0 : 0 ≤ nb.toInt := by obtain ⟨_, _, _, q0, _⟩ := VR; exact q0
  have nex : r ≠ x' := Ne.symm (Nat.ne_of_lt (Nat.lt_of_lt_of_le E0.lt hr))
  refine own_st (fr' := (mkF m 41 #[.val (.ref x'), .val (.ref va), .val (.int (0 : Int32)), .val (.int q), .val .null, .val (.ref r)] [])) (fun t k => XS.astore X40.here hx rfl (hb hby d4_39) rfl rfl (l' := #[.val (.ref x'), .val (.ref va), .val (.int (0 : Int32)), .val (.int q), .val .null, .val (.ref r)]) rfl k) ?_
  refine own_st (fr' := (mkF m 42 #[.val (.ref x'), .val (.ref va), .val (.int (0 : Int32)), .val (.int q), .val .null, .val (.ref r)] [(.ref x')])) (fun t k => XS.aloadN X40.here hx rfl (hb hby d4_41) rfl rfl k) ?_
  refine own_st (fr' := (mkF m 44 #[.val (.ref x'), .val (.ref va), .val (.int (0 : Int32)), .val (.int q), .val .null, .val (.ref r)] [(.ref r), (.ref x')])) (fun t k => XS.aload X40.here hx rfl (hb hby d4_42) rfl rfl k) ?_
  refine own_st (fr' := (mkF m 45 #[.val (.ref x'), .val (.ref va), .val (.int (0 : Int32)), .val (.int q), .val .null, .val (.ref r)] [(.int q), (.ref r), (.ref x')])) (fun t k => XS.iloadN X40.here hx rfl (hb hby d4_44) rfl  k) ?_
  refine own_callS X40 hx hZ (y := (⟨"java/lang/StringUTF16", "coderFromArrayLen", "([BI)B"⟩ : MethodName)) hown (hw _ (List.mem_of_getElem? (i := 86) rfl)) (hw _ (List.mem_of_getElem? (i := 87) rfl)) (hw _ (List.mem_of_getElem? (i := 62) rfl)) (hw _ (List.mem_of_getElem? (i := 88) rfl)) (by decide) (argsL := [(.ref r), (.int q)]) (rest := [(.ref x')]) (W := 1) (rm_cfal l Z a0 hw [] r q nb g T40.heap n0 (Nat.le_trans Z0 K40.1) VR ⟨hq5.1, by omega⟩ ⟨hnb0, by omega⟩) rfl (by rw [hml]; rfl) (lenOf pd_6 rfl) rfl (Nat.le_of_eq rfl) (hb hby d4_45) (by decide) (by decide) (by decide) (by decide) ?_
  intro v41 T41 L41 X41 hQ41
  obtain ⟨⟨zc, rfl, hzc⟩, Nq41, eq41⟩ := hQ41
  have N41 := Fr.app N40 Nq41
  obtain rfl : zc = cod := HB.cod hq.1 hzc
  have hz01 := HB.b
  obtain ⟨T42, h42, X42, e42, W42, st42⟩ := putFN X41 hx hZ hown (hw _ (List.mem_of_getElem? (i := 29) rfl)) Via.refl eq41 (Fc0.keep K40 nin0) (E0.keep K40) (Or.inr ⟨(hw _ (List.mem_of_getElem? (i := 25) rfl)), rfl, hnm⟩) (hw _ (List.mem_of_getElem? (i := 10) rfl)) (ty := .byte) (v' := (.int zc)) (by decide) (by rcases hz01 with rfl | rfl <;> rfl) (by rcases hz01 with rfl | rfl <;> rfl) (g := (mkF m 48 #[.val (.ref x'), .val (.ref va), .val (.int (0 : Int32)), .val (.int q), .val .null, .val (.ref r)] [(.int zc), (.ref x')])) rfl rfl (hb hby d4_48)
  have Fw42 := Fld.same W42 (Fc0.keep K40 nin0)
  have N42 := Fr.snoc X42 N41 ge_x'
  refine own_st (fr' := (mkF m 51 #[.val (.ref x'), .val (.ref va), .val (.int (0 : Int32)), .val (.int q), .val .null, .val (.ref r)] [])) st42 ?_
  refine own_st (fr' := (mkF m 52 #[.val (.ref x'), .val (.ref va), .val (.int (0 : Int32)), .val (.int q), .val .null, .val (.ref r)] [(.ref x')])) (fun t k => XS.aloadN X42.here hx rfl (hb hby d4_51) rfl rfl k) ?_
  refine own_st (fr' := (mkF m 54 #[.val (.ref x'), .val (.ref va), .val (.int (0 : Int32)), .val (.int q), .val .null, .val (.ref r)] [(.ref r), (.ref x')])) (fun t k => XS.aload X42.here hx rfl (hb hby d4_52) rfl rfl k) ?_
  obtain ⟨T43, h43, X43, e43, W43, st43⟩ := putF X42 hx hZ hown (host := "") (Or.inl (hw _ (List.mem_of_getElem? (i := 28) rfl))) Via.refl e42 (Fld.other W42 (Fv0.keep K40 nin0) (Or.inr (Jvm.RoadKit.slot_ne (C := "java/lang/String") (Or.inr (hw _ (List.mem_of_getElem? (i := 24) rfl))) (Or.inr (hw _ (List.mem_of_getElem? (i := 25) rfl))) (by decide) (t := (.array .byte)) (t' := .byte) (by decide) (by decide)))) (Exa.wr W42 (E0.keep K40)) (Or.inr ⟨(hw _ (List.mem_of_getElem? (i := 24) rfl)), rfl, hnm⟩) (hw _ (List.mem_of_getElem? (i := 10) rfl)) (ty := (.array .byte)) (by decide) (rfl) (rfl) (g := (mkF m 54 #[.val (.ref x'), .val (.ref va), .val (.int (0 : Int32)), .val (.int q), .val .null, .val (.ref r)] [(.ref r), (.ref x')])) rfl rfl (hb hby d4_54)
  have Fw43 := Fld.same W43 (Fld.other W42 (Fv0.keep K40 nin0) (Or.inr (Jvm.RoadKit.slot_ne (C := "java/lang/String") (Or.inr (hw _ (List.mem_of_getElem? (i := 24) rfl))) (Or.inr (hw _ (List.mem_of_getElem? (i := 25) rfl))) (by decide) (t := (.array .byte)) (t' := .byte) (by decide) (by decide))))
  have N43 := Fr.snoc X43 N42 ge_x'
  refine own_st (fr' := (mkF m 57 #[.val (.ref x'), .val (.ref va), .val (.int (0 : Int32)), .val (.int q), .val .null, .val (.ref r)] [])) st43 ?_
  exact own_retV X43 hx hlk hret (hb hby d4_57) (by decide) (by decide) (by rw [e43]; exact ⟨⟨r, nb, g, zc, rfl, hr, ((VR.other W42 nex).other W43 nex), HB, Fw43, (Fld.other W43 Fw42 (Or.inr (Jvm.RoadKit.slot_ne (C := "java/lang/String") (Or.inr (hw _ (List.mem_of_getElem? (i := 25) rfl))) (Or.inr (hw _ (List.mem_of_getElem? (i := 24) rfl))) (by decide) (t := .byte) (t' := (.array .byte)) (by decide) (by decide))))⟩, N43, (Keep.wr (Keep.wr (Keep.trans (Keep.refl h0 [x']) K40 all0) W42 (Or.inl (List.mem_of_getElem? (i := 0) rfl))) W43 (Or.inl (List.mem_of_getElem? (i := 0) rfl)))⟩)
theorem pd_7 : parseMethodDescriptor "([CIILjava/lang/Void;)V" = some ⟨[(.array .char), .int, .int, (.object "java/lang/Void")], none⟩ := by decide +kernel
theorem d3_0 : decode jdk_42_method_3_code 0 = .ok (.aload_n 0, 1) := by decide +kernel
theorem d3_1 : decode jdk_42_method_3_code 1 = .ok (.aload_n 1, 1) := by decide +kernel
theorem d3_2 : decode jdk_42_method_3_code 2 = .ok (.iconst 0, 1) := by decide +kernel
theorem d3_3 : decode jdk_42_method_3_code 3 = .ok (.aload_n 1, 1) := by decide +kernel
theorem d3_4 : decode jdk_42_method_3_code 4 = .ok (.arraylength, 1) := by decide +kernel
theorem d3_5 : decode jdk_42_method_3_code 5 = .ok (.aconst_null, 1) := by decide +kernel
theorem d3_6 : decode jdk_42_method_3_code 6 = .ok (.invokespecial 27, 3) := by decide +kernel
theorem d3_9 : decode jdk_42_method_3_code 9 = .ok (.return_, 1) := by decide +kernel
theorem ef_scA (m : MethodId) (va : Addr) : entryFrame m #[(.ref x'), (.ref va)] 2 = mkF m 0 #[.val (.ref x'), .val (.ref va)] [] := by first | (simp [entryFrame, mkF, argsToLocals, Value.category, maxLocals]; done) | rfl
def Q_scA (Z : State) (x' : Addr) (va : Addr) (q : Int32) (cs : Nat → Int32) (cz : Int32) (fv : Value) (h0 : Heap) (n0 : Nat) : Option Value → Heap → List Loc → Prop := fun v h L => (∃ (r : Addr) (nb : Int32) (g : Nat → Value) (cod : Int32), v = none ∧ h0.size ≤ r ∧ own_A Z h r .byte nb g ∧ own_By g nb q cs cod ∧ Fld Z h x' "java/lang/String" "value" "[B" (.ref r) ∧ Fld Z h x' "java/lang/String" "coder" "B" (.int cod)) ∧ Fr n0 L ∧ Keep h0 h [x']
set_option maxRecDepth 65536 in
set_option maxHeartbeats 40000000 in
theorem rm_scA (l : Launch) (Z : State) (a0 : Array Value) (hw : ∀ d ∈ tables_1, d.before a0 Z = true) (ws : List Jvm.Cond) (x' : Addr) (va : Addr) (q : Int32) (cs : Nat → Int32) (cz : Int32) (fv : Value) (h0 : Heap) (n0 : Nat) (Z0 : n0 ≤ h0.size) (E0 : Exa Z h0 x' "java/lang/String") (Fv0 : Fld Z h0 x' "java/lang/String" "value" "[B" .null) (Fc0 : Fld Z h0 x' "java/lang/String" "coder" "B" (.int 0)) (VV : own_A Z h0 va .char q (fun i => Value.int (cs i))) (hq : 1 ≤ q.toInt ∧ q.toInt ≤ 5) (hR : own_Rg cs) (ge_x' : n0 ≤ x') (S_cs : Sta Z h0 "java/lang/String" "COMPACT_STRINGS" "Z" (.int cz)) (S_fm : Sta Z h0 "jdk/internal/util/Preconditions" "SIOOBE_FORMATTER" "Ljava/util/function/BiFunction;" fv) (S_as : Sta Z h0 "java/lang/StringUTF16" "$assertionsDisabled" "Z" (.int (1 : Int32))) (S_hi : Sta Z h0 "java/lang/StringUTF16" "HI_BYTE_SHIFT" "I" (.int (0 : Int32))) (S_lo : Sta Z h0 "java/lang/StringUTF16" "LO_BYTE_SHIFT" "I" (.int (8 : Int32))) (hcz : ¬ cz.toInt = 0) (hfv : fv.isRef = true) :
    MetFree l (⟨"java/lang/String", "<init>", "([C)V"⟩ : MethodName) (head1 (Jvm.Cond.code (⟨"java/lang/String", "<init>", "([C)V"⟩ : MethodName) jdk_42_method_3_code 2 none :: ws) ({ frames := 5, cells := 2, slots := 15, locals := 74 } : Room)) (fun aX U => aX = #[(.ref x'), (.ref va)] ∧ Z.Warmed39 U.vm ∧ U.heap = h0) (fun _ _ _ _ _ => True) (fun _ U o U' => ∃ v L, o = .returned v ∧ (Q_scA Z x' va q cs cz fv h0 n0) v U'.heap L ∧ FrameEnd U o U' L ({ frames := 5, cells := 2, slots := 15, locals := 74 } : Room).cells ({ frames := 5, cells := 2, slots := 15, locals := 74 } : Room).slots) := by
  refine own_met (Q := (Q_scA Z x' va q cs cz fv h0 n0)) (plainFor_of_name (x := (⟨"java/lang/String", "<init>", "([C)V"⟩ : MethodName)) pn_2) (fun m => ef_scA m va) ?_
  intro p e s m below meth cD s₁ hx hby hml hret hlk hZ hown hnm X0 e0 hs0
  have hown : s.vm.findClass "java/lang/String" = some m.cls := hown
  have N0 := Fr.nil n0
  refine own_st (fr' := (mkF m 1 #[.val (.ref x'), .val (.ref va)] [(.ref x')])) (fun t k => XS.aloadN X0.here hx rfl (hb hby d3_0) rfl rfl k) ?_
  refine own_st (fr' := (mkF m 2 #[.val (.ref x'), .val (.ref va)] [(.ref va), (.ref x')])) (fun t k => XS.aloadN X0.here hx rfl (hb hby d3_1) rfl rfl k) ?_
  refine own_st (fr' := (mkF m 3 #[.val (.ref x'), .val (.ref va)] [(.int (0 : Int32)), (.ref va), (.ref x')])) (fun t k => XS.iconst X0.here hx rfl (hb hby d3_2) k) ?_
  refine own_st (fr' := (mkF m 4 #[.val (.ref x'), .val (.ref va)] [(.ref va), (.int (0 : Int32)), (.ref va), (.ref x')])) (fun t k => XS.aloadN X0.here hx rfl (hb hby d3_3) rfl rfl k) ?_
  refine own_alen X0 hx hZ e0 VV (hb hby d3_4) ?_
  refine own_st (fr' := (mkF m 6 #[.val (.ref x'), .val (.ref va)] [.null, (.int q), (.int (0 : Int32)), (.ref va), (.ref x')])) (fun t k => XS.aconstNull X0.here hx rfl (hb hby d3_5) k) ?_
  refine own_callN X0 hx hZ (y := (⟨"java/lang/String", "<init>", "([CIILjava/lang/Void;)V"⟩ : MethodName)) hown rfl (hw _ (List.mem_of_getElem? (i := 15) rfl)) (hw _ (List.mem_of_getElem? (i := 16) rfl)) (hw _ (List.mem_of_getElem? (i := 11) rfl)) (hw _ (List.mem_of_getElem? (i := 18) rfl)) (by decide) (a := x') (argsL := [(.ref va), (.int (0 : Int32)), (.int q), .null]) (rest := []) (W := 0) (rm_siA l Z a0 hw [] x' va q cs cz fv h0 n0 Z0 E0 Fv0 Fc0 VV hq hR ge_x' S_cs S_fm S_as S_hi S_lo hcz hfv) e0 (by rw [hml]; rfl) (lenOf pd_7 rfl) rfl (Nat.le_of_eq rfl) (hb hby d3_6) (by decide) (by decide) (by decide) (by decide) ?_
  intro v44 T44 L44 X44 hQ44
  have N44 := Fr.app N0 hQ44.2.1
  have hn44 : v44 = none := by obtain ⟨⟨_, _, _, _, e, _⟩, _⟩ := hQ44; exact e
  subst hn44
  exact own_retV X44 hx hlk hret (hb hby d3_9) (by decide) (by decide) (⟨hQ44.1, N44, hQ44.2.2⟩)
theorem d4_8 : decode jdk_42_method_149_code 8 = .ok (.aload_n 0, 1) := by decide +kernel
theorem d4_9 : decode jdk_42_method_149_code 9 = .ok (.ldc 7, 2) := by decide +kernel
theorem d4_11 : decode jdk_42_method_149_code 11 = .ok (.getfield 9, 3) := by decide +kernel
theorem d4_14 : decode jdk_42_method_149_code 14 = .ok (.putfield 9, 3) := by decide +kernel
theorem d4_17 : decode jdk_42_method_149_code 17 = .ok (.aload_n 0, 1) := by decide +kernel
theorem d4_18 : decode jdk_42_method_149_code 18 = .ok (.ldc 7, 2) := by decide +kernel
theorem d4_20 : decode jdk_42_method_149_code 20 = .ok (.getfield 15, 3) := by decide +kernel
theorem d4_23 : decode jdk_42_method_149_code 23 = .ok (.putfield 15, 3) := by decide +kernel
theorem d4_26 : decode jdk_42_method_149_code 26 = .ok (.return_, 1) := by decide +kernel
theorem ef_siE (m : MethodId) (va : Addr) : entryFrame m #[(.ref x'), (.ref va), (.int (0 : Int32)), (.int (0 : Int32)), .null] 6 = mkF m 0 #[.val (.ref x'), .val (.ref va), .val (.int (0 : Int32)), .val (.int (0 : Int32)), .val .null, .unset] [] := by first | (simp [entryFrame, mkF, argsToLocals, Value.category, maxLocals]; done) | rfl
def Q_siE (Z : State) (x' : Addr) (va : Addr) (h0 : Heap) (n0 : Nat) : Option Value → Heap → List Loc → Prop := fun v h L => (∃ b : Addr, v = none ∧ own_A Z h b .byte 0 (fun _ => .int 0) ∧ Fld Z h x' "java/lang/String" "value" "[B" (.ref b) ∧ Fld Z h x' "java/lang/String" "coder" "B" (.int 0)) ∧ Fr n0 L ∧ Keep h0 h [x']
set_option maxRecDepth 65536 in
set_option maxHeartbeats 40000000 in
theorem rm_siE (l : Launch) (Z : State) (a0 : Array Value) (hw : ∀ d ∈ tables_1, d.before a0 Z = true) (ws : List Jvm.Cond) (x' : Addr) (va : Addr) (h0 : Heap) (n0 : Nat) (Z0 : n0 ≤ h0.size) (E0 : Exa Z h0 x' "java/lang/String") (Fv0 : Fld Z h0 x' "java/lang/String" "value" "[B" .null) (Fc0 : Fld Z h0 x' "java/lang/String" "coder" "B" (.int 0)) (ge_x' : n0 ≤ x') :
    MetFree l (⟨"java/lang/String", "<init>", "([CIILjava/lang/Void;)V"⟩ : MethodName) (head1 (Jvm.Cond.code (⟨"java/lang/String", "<init>", "([CIILjava/lang/Void;)V"⟩ : MethodName) jdk_42_method_149_code 6 none :: ws) ({ frames := 1, cells := 2, slots := 4, locals := 12 } : Room)) (fun aX U => aX = #[(.ref x'), (.ref va), (.int (0 : Int32)), (.int (0 : Int32)), .null] ∧ Z.Warmed39 U.vm ∧ U.heap = h0 ∧ CHv Z own_EL U.vm h0) (fun _ _ _ _ _ => True) (fun _ U o U' => ∃ v L, o = .returned v ∧ (Q_siE Z x' va h0 n0) v U'.heap L ∧ CHr Z own_EL U.vm U.heap U'.vm U'.heap ∧ ReturnedEndW U o U' L ({ frames := 1, cells := 2, slots := 4, locals := 12 } : Room).cells ({ frames := 1, cells := 2, slots := 4, locals := 12 } : Room).slots) := by
  refine own_metC (Q := (Q_siE Z x' va h0 n0)) (plainFor_of_name (x := (⟨"java/lang/String", "<init>", "([CIILjava/lang/Void;)V"⟩ : MethodName)) pn_2) (fun m => ef_siE m va) ?_
  intro p e s m below meth cD s₁ hx hby hml hret hlk hZ hown hnm X0 e0 hS r0
  have hown : s.vm.findClass "java/lang/String" = some m.cls := hown
  have N0 := Fr.nil n0
  have sf0 := own_safeN hZ E0 Fv0 (EL := own_EL)
  refine own_st (fr' := (mkF m 1 #[.val (.ref x'), .val (.ref va), .val (.int (0 : Int32)), .val (.int (0 : Int32)), .val .null, .unset] [(.ref x')])) (fun t k => XS.aloadN X0.here hx rfl (hb hby d4_0) rfl rfl k) ?_
  obtain ⟨T45, X45, e45, st45⟩ := initO X0 hx hZ hown (hw _ (List.mem_of_getElem? (i := 19) rfl)) (hw _ (List.mem_of_getElem? (i := 20) rfl)) (hw _ (List.mem_of_getElem? (i := 21) rfl)) e0 (g := (mkF m 1 #[.val (.ref x'), .val (.ref va), .val (.int (0 : Int32)), .val (.int (0 : Int32)), .val .null, .unset] [(.ref x')])) rfl (by rw [hml]; rfl) rfl (hb hby d4_1) (by decide) (W := 0) (by show 2 * 0 + _ ≤ _; exact Nat.le_of_eq rfl) (by decide)
  refine own_st (fr' := (mkF m 4 #[.val (.ref x'), .val (.ref va), .val (.int (0 : Int32)), .val (.int (0 : Int32)), .val .null, .unset] [])) st45 ?_
  refine own_st (fr' := (mkF m 5 #[.val (.ref x'), .val (.ref va), .val (.int (0 : Int32)), .val (.int (0 : Int32)), .val .null, .unset] [(.int (0 : Int32))])) (fun t k => XS.iloadN X45.here hx rfl (hb hby d4_4) rfl  k) ?_
  refine own_st (fr' := (mkF m 8 #[.val (.ref x'), .val (.ref va), .val (.int (0 : Int32)), .val (.int (0 : Int32)), .val .null, .unset] [])) (fun t k => XS.ifNo X45.here hx rfl (hb hby d4_5) rfl ((if0 _ _).trans (own_teq (x := (0 : Int32)) (y := (0 : Int32)) (show 0 = 0 from rfl)).2) k) ?_
  refine own_st (fr' := (mkF m 9 #[.val (.ref x'), .val (.ref va), .val (.int (0 : Int32)), .val (.int (0 : Int32)), .val .null, .unset] [(.ref x')])) (fun t k => XS.aloadN X45.here hx rfl (hb hby d4_8) rfl rfl k) ?_
  refine own_ldcE X45 hx hZ hS (Nat.le_refl _) (own_ew hw) r0 hown (hw _ (List.mem_of_getElem? (i := 22) rfl)) (own_wS hw) (by decide) e45 (hb hby d4_9) (by decide) (by decide) ?_
  intro T46 h46 vm46 la46 lb46 X46 e46 E46 hZ hown hS rc46 r46 Ea46 Fc46 Fv46 V46 Lt46 ne46
  have sf46_x' := CHr.safe rc46 E0.lt sf0
  obtain ⟨T47, X47, e47, st47⟩ := getF X46 hx hZ hown (host := "") (Or.inl (hw _ (List.mem_of_getElem? (i := 28) rfl))) Via.refl e46 Fv46 (g := (mkF m 11 #[.val (.ref x'), .val (.ref va), .val (.int (0 : Int32)), .val (.int (0 : Int32)), .val .null, .unset] [(.ref la46), (.ref x')])) rfl rfl (hb hby d4_11)
  refine own_st (fr' := (mkF m 14 #[.val (.ref x'), .val (.ref va), .val (.int (0 : Int32)), .val (.int (0 : Int32)), .val .null, .unset] [(.ref lb46), (.ref x')])) st47 ?_
  obtain ⟨T48, h48, X48, e48, W48, st48⟩ := putF X47 hx hZ hown (host := "") (Or.inl (hw _ (List.mem_of_getElem? (i := 28) rfl))) Via.refl e47 (Fv0.ext E46) (E0.ext E46) (Or.inr ⟨(hw _ (List.mem_of_getElem? (i := 24) rfl)), rfl, hnm⟩) (hw _ (List.mem_of_getElem? (i := 10) rfl)) (ty := (.array .byte)) (by decide) (rfl) (rfl) (g := (mkF m 14 #[.val (.ref x'), .val (.ref va), .val (.int (0 : Int32)), .val (.int (0 : Int32)), .val .null, .unset] [(.ref lb46), (.ref x')])) rfl rfl (hb hby d4_14)
  have Fw48 := Fld.same W48 (Fv0.ext E46)
  have N48 := Fr.snoc X48 N0 ge_x'
  have r49 := CHr.trans r46 (CHr.wr W48 sf46_x' r46.1)
  have sf49_x' := Safe.wr W48 sf46_x' r46.1 sf46_x'
  refine own_st (fr' := (mkF m 17 #[.val (.ref x'), .val (.ref va), .val (.int (0 : Int32)), .val (.int (0 : Int32)), .val .null, .unset] [])) st48 ?_
  refine own_st (fr' := (mkF m 18 #[.val (.ref x'), .val (.ref va), .val (.int (0 : Int32)), .val (.int (0 : Int32)), .val .null, .unset] [(.ref x')])) (fun t k => XS.aloadN X48.here hx rfl (hb hby d4_17) rfl rfl k) ?_
  refine own_ldcA X48 hx hZ hown (hw _ (List.mem_of_getElem? (i := 22) rfl)) Lt46 (hb hby d4_18) ?_
  obtain ⟨T50, X50, e50, st50⟩ := getF X48 hx hZ hown (host := "") (Or.inl (hw _ (List.mem_of_getElem? (i := 29) rfl))) Via.refl e48 (Fld.other W48 Fc46 (Or.inl (Ne.symm (ne46 _ sf46_x').1))) (g := (mkF m 20 #[.val (.ref x'), .val (.ref va), .val (.int (0 : Int32)), .val (.int (0 : Int32)), .val .null, .unset] [(.ref la46), (.ref x')])) rfl rfl (hb hby d4_20)
  refine own_st (fr' := (mkF m 23 #[.val (.ref x'), .val (.ref va), .val (.int (0 : Int32)), .val (.int (0 : Int32)), .val .null, .unset] [(.int (0 : Int32)), (.ref x')])) st50 ?_
  obtain ⟨T51, h51, X51, e51, W51, st51⟩ := putFN X50 hx hZ hown (hw _ (List.mem_of_getElem? (i := 29) rfl)) Via.refl e50 (Fld.other W48 (Fc0.ext E46) (Or.inr (Jvm.RoadKit.slot_ne (C := "java/lang/String") (Or.inr (hw _ (List.mem_of_getElem? (i := 25) rfl))) (Or.inr (hw _ (List.mem_of_getElem? (i := 24) rfl))) (by decide) (t := .byte) (t' := (.array .byte)) (by decide) (by decide)))) (Exa.wr W48 (E0.ext E46)) (Or.inr ⟨(hw _ (List.mem_of_getElem? (i := 25) rfl)), rfl, hnm⟩) (hw _ (List.mem_of_getElem? (i := 10) rfl)) (ty := .byte) (v' := (.int (0 : Int32))) (by decide) (rfl) (rfl) (g := (mkF m 23 #[.val (.ref x'), .val (.ref va), .val (.int (0 : Int32)), .val (.int (0 : Int32)), .val .null, .unset] [(.int (0 : Int32)), (.ref x')])) rfl rfl (hb hby d4_23)
  have Fw51 := Fld.same W51 (Fld.other W48 (Fc0.ext E46) (Or.inr (Jvm.RoadKit.slot_ne (C := "java/lang/String") (Or.inr (hw _ (List.mem_of_getElem? (i := 25) rfl))) (Or.inr (hw _ (List.mem_of_getElem? (i := 24) rfl))) (by decide) (t := .byte) (t' := (.array .byte)) (by decide) (by decide))))
  have N51 := Fr.snoc X51 N48 ge_x'
  have r52 := CHr.trans r49 (CHr.wr W51 sf49_x' r49.1)
  have sf52_x' := Safe.wr W51 sf49_x' r49.1 sf49_x'
  refine own_st (fr' := (mkF m 26 #[.val (.ref x'), .val (.ref va), .val (.int (0 : Int32)), .val (.int (0 : Int32)), .val .null, .unset] [])) st51 ?_
  exact own_retVC X51 hx hlk hZ hS (Nat.le_trans (Nat.le_trans (Nat.le_refl _) (Nat.le_of_eq (Wr.size W48).symm)) (Nat.le_of_eq (Wr.size W51).symm)) (own_ew hw) r52 e51 hret (hb hby d4_26) (by decide) (by decide) (by rw [e51]; exact ⟨⟨lb46, rfl, ((V46.other W48 (Ne.symm (ne46 _ sf46_x').2)).other W51 (Ne.symm (ne46 _ sf46_x').2)), (Fld.other W51 Fw48 (Or.inr (Jvm.RoadKit.slot_ne (C := "java/lang/String") (Or.inr (hw _ (List.mem_of_getElem? (i := 24) rfl))) (Or.inr (hw _ (List.mem_of_getElem? (i := 25) rfl))) (by decide) (t := (.array .byte)) (t' := .byte) (by decide) (by decide)))), Fw51⟩, N51, (Keep.wr (Keep.wr (Keep.ext (Keep.refl h0 [x']) E46) W48 (Or.inl (List.mem_of_getElem? (i := 0) rfl))) W51 (Or.inl (List.mem_of_getElem? (i := 0) rfl)))⟩)
theorem ef_scE (m : MethodId) (va : Addr) : entryFrame m #[(.ref x'), (.ref va)] 2 = mkF m 0 #[.val (.ref x'), .val (.ref va)] [] := by first | (simp [entryFrame, mkF, argsToLocals, Value.category, maxLocals]; done) | rfl
def Q_scE (Z : State) (x' : Addr) (va : Addr) (f : Nat → Value) (h0 : Heap) (n0 : Nat) : Option Value → Heap → List Loc → Prop := fun v h L => (∃ b : Addr, v = none ∧ own_A Z h b .byte 0 (fun _ => .int 0) ∧ Fld Z h x' "java/lang/String" "value" "[B" (.ref b) ∧ Fld Z h x' "java/lang/String" "coder" "B" (.int 0)) ∧ Fr n0 L ∧ Keep h0 h [x']
set_option maxRecDepth 65536 in
set_option maxHeartbeats 40000000 in
theorem rm_scE (l : Launch) (Z : State) (a0 : Array Value) (hw : ∀ d ∈ tables_1, d.before a0 Z = true) (ws : List Jvm.Cond) (x' : Addr) (va : Addr) (f : Nat → Value) (h0 : Heap) (n0 : Nat) (Z0 : n0 ≤ h0.size) (E0 : Exa Z h0 x' "java/lang/String") (Fv0 : Fld Z h0 x' "java/lang/String" "value" "[B" .null) (Fc0 : Fld Z h0 x' "java/lang/String" "coder" "B" (.int 0)) (ge_x' : n0 ≤ x') (VV : own_A Z h0 va .char 0 f) :
    MetFree l (⟨"java/lang/String", "<init>", "([C)V"⟩ : MethodName) (head1 (Jvm.Cond.code (⟨"java/lang/String", "<init>", "([C)V"⟩ : MethodName) jdk_42_method_3_code 2 none :: ws) ({ frames := 2, cells := 2, slots := 4, locals := 29 } : Room)) (fun aX U => aX = #[(.ref x'), (.ref va)] ∧ Z.Warmed39 U.vm ∧ U.heap = h0 ∧ CHv Z own_EL U.vm h0) (fun _ _ _ _ _ => True) (fun _ U o U' => ∃ v L, o = .returned v ∧ (Q_scE Z x' va f h0 n0) v U'.heap L ∧ CHr Z own_EL U.vm U.heap U'.vm U'.heap ∧ ReturnedEndW U o U' L ({ frames := 2, cells := 2, slots := 4, locals := 29 } : Room).cells ({ frames := 2, cells := 2, slots := 4, locals := 29 } : Room).slots) := by
  refine own_metC (Q := (Q_scE Z x' va f h0 n0)) (plainFor_of_name (x := (⟨"java/lang/String", "<init>", "([C)V"⟩ : MethodName)) pn_2) (fun m => ef_scE m va) ?_
  intro p e s m below meth cD s₁ hx hby hml hret hlk hZ hown hnm X0 e0 hS r0
  have hown : s.vm.findClass "java/lang/String" = some m.cls := hown
  have N0 := Fr.nil n0
  refine own_st (fr' := (mkF m 1 #[.val (.ref x'), .val (.ref va)] [(.ref x')])) (fun t k => XS.aloadN X0.here hx rfl (hb hby d3_0) rfl rfl k) ?_
  refine own_st (fr' := (mkF m 2 #[.val (.ref x'), .val (.ref va)] [(.ref va), (.ref x')])) (fun t k => XS.aloadN X0.here hx rfl (hb hby d3_1) rfl rfl k) ?_
  refine own_st (fr' := (mkF m 3 #[.val (.ref x'), .val (.ref va)] [(.int (0 : Int32)), (.ref va), (.ref x')])) (fun t k => XS.iconst X0.here hx rfl (hb hby d3_2) k) ?_
  refine own_st (fr' := (mkF m 4 #[.val (.ref x'), .val (.ref va)] [(.ref va), (.int (0 : Int32)), (.ref va), (.ref x')])) (fun t k => XS.aloadN X0.here hx rfl (hb hby d3_3) rfl rfl k) ?_
  refine own_alen X0 hx hZ e0 VV (hb hby d3_4) ?_
  refine own_st (fr' := (mkF m 6 #[.val (.ref x'), .val (.ref va)] [.null, (.int (0 : Int32)), (.int (0 : Int32)), (.ref va), (.ref x')])) (fun t k => XS.aconstNull X0.here hx rfl (hb hby d3_5) k) ?_
  refine own_callNC X0 hx hZ hS (Nat.le_refl _) (own_ew hw) r0 (y := (⟨"java/lang/String", "<init>", "([CIILjava/lang/Void;)V"⟩ : MethodName)) hown rfl (hw _ (List.mem_of_getElem? (i := 15) rfl)) (hw _ (List.mem_of_getElem? (i := 16) rfl)) (hw _ (List.mem_of_getElem? (i := 11) rfl)) (hw _ (List.mem_of_getElem? (i := 18) rfl)) (by decide) (a := x') (argsL := [(.ref va), (.int (0 : Int32)), (.int (0 : Int32)), .null]) (rest := []) (W := 0) (rm_siE l Z a0 hw [] x' va h0 n0 Z0 E0 Fv0 Fc0 ge_x') e0  (by rw [hml]; rfl) (lenOf pd_7 rfl) rfl (Nat.le_of_eq rfl) (hb hby d3_6) (by decide) (by decide) (by decide) (by decide) ?_
  intro v53 T53 L53 vm53 X53 hQ53 hZ hown hS rc53 r53
  obtain ⟨⟨b, rfl, VB, G1, G2⟩, Nq53, K53⟩ := hQ53
  have N53 := Fr.app N0 Nq53
  exact own_retVC X53 hx hlk hZ hS (Nat.le_refl _) (own_ew hw) r53 rfl hret (hb hby d3_9) (by decide) (by decide) (⟨⟨b, rfl, VB, G1, G2⟩, N53, K53⟩)
def own_Str (Z : State) (h : Heap) (x : Addr) (n : Int32) (cs : Nat → Int32) : Prop := ∃ (r : Addr) (nb : Int32) (g : Nat → Value) (cod : Int32), Exa Z h x "java/lang/String" ∧ Fld Z h x "java/lang/String" "value" "[B" (.ref r) ∧ Fld Z h x "java/lang/String" "coder" "B" (.int cod) ∧ own_A Z h r .byte nb g ∧ own_By g nb n cs cod
theorem own_Str.ext {Z : State} {h h' : Heap} {x : Addr} {n : Int32} {cs : Nat → Int32} (F : own_Str Z h x n cs) (E : Ext h h') : own_Str Z h' x n cs := by
  obtain ⟨r, nb, g, cod, a, b, c, d, f⟩ := F
  exact ⟨r, nb, g, cod, a.ext E, b.ext E, c.ext E, d.ext E, f⟩
theorem own_Str.keep {Z : State} {h h' : Heap} {x : Addr} {n : Int32} {cs : Nat → Int32} (F : own_Str Z h x n cs) (E : Keep h h' []) : own_Str Z h' x n cs := by
  obtain ⟨r, nb, g, cod, a, b, c, d, f⟩ := F
  exact ⟨r, nb, g, cod, a.keep E, b.keep E nin0, c.keep E nin0, d.keep E nin0, f⟩
theorem own_Str.lt {Z : State} {h : Heap} {x : Addr} {n : Int32} {cs : Nat → Int32} (F : own_Str Z h x n cs) : x < h.size := by
  obtain ⟨r, nb, g, cod, a, -⟩ := F
  exact a.lt
def own_cs (c0 c1 c2 c3 c4 : Int32) (i : Nat) : Int32 := if i = 0 then c0 else if i = 1 then c1 else if i = 2 then c2 else if i = 3 then c3 else c4
theorem own_csR {c0 c1 c2 c3 c4 : Int32} (h0 : 0 ≤ c0.toInt ∧ c0.toInt ≤ 65535) (h1 : 0 ≤ c1.toInt ∧ c1.toInt ≤ 65535) (h2 : 0 ≤ c2.toInt ∧ c2.toInt ≤ 65535) (h3 : 0 ≤ c3.toInt ∧ c3.toInt ≤ 65535) (h4 : 0 ≤ c4.toInt ∧ c4.toInt ≤ 65535) : own_Rg (own_cs c0 c1 c2 c3 c4) := fun i => by
  unfold own_cs
  split
  · exact h0
  split
  · exact h1
  split
  · exact h2
  split
  · exact h3
  · exact h4
theorem own_nch {z : Int32} (h : 0 ≤ z.toInt ∧ z.toInt ≤ 65535) : nar .char z = z := by
  have q := c_i2c z
  show z.toUInt32.toUInt16.toUInt32.toInt32 = z
  apply Int32.toInt_inj.mp
  omega
theorem pd_8 : parseMethodDescriptor "([C)V" = some ⟨[(.array .char)], none⟩ := by decide +kernel
theorem d2_0 : decode method_7_code 0 = .ok (.iload_n 0, 1) := by decide +kernel
theorem d2_1 : decode method_7_code 1 = .ok (.ifCond .ne 14, 3) := by decide +kernel
theorem d2_4 : decode method_7_code 4 = .ok (.new 29, 3) := by decide +kernel
theorem d2_7 : decode method_7_code 7 = .ok (.dup, 1) := by decide +kernel
theorem d2_8 : decode method_7_code 8 = .ok (.iconst 0, 1) := by decide +kernel
theorem d2_9 : decode method_7_code 9 = .ok (.newarray .char, 2) := by decide +kernel
theorem d2_11 : decode method_7_code 11 = .ok (.invokespecial 45, 3) := by decide +kernel
theorem d2_14 : decode method_7_code 14 = .ok (.areturn, 1) := by decide +kernel
theorem d2_15 : decode method_7_code 15 = .ok (.iload_n 0, 1) := by decide +kernel
theorem d2_16 : decode method_7_code 16 = .ok (.iconst 1, 1) := by decide +kernel
theorem d2_17 : decode method_7_code 17 = .ok (.if_icmp .ne 18, 3) := by decide +kernel
theorem d2_20 : decode method_7_code 20 = .ok (.new 29, 3) := by decide +kernel
theorem d2_23 : decode method_7_code 23 = .ok (.dup, 1) := by decide +kernel
theorem d2_24 : decode method_7_code 24 = .ok (.iconst 1, 1) := by decide +kernel
theorem d2_25 : decode method_7_code 25 = .ok (.newarray .char, 2) := by decide +kernel
theorem d2_27 : decode method_7_code 27 = .ok (.dup, 1) := by decide +kernel
theorem d2_28 : decode method_7_code 28 = .ok (.iconst 0, 1) := by decide +kernel
theorem d2_29 : decode method_7_code 29 = .ok (.iload_n 1, 1) := by decide +kernel
theorem d2_30 : decode method_7_code 30 = .ok (.castore, 1) := by decide +kernel
theorem d2_31 : decode method_7_code 31 = .ok (.invokespecial 45, 3) := by decide +kernel
theorem d2_34 : decode method_7_code 34 = .ok (.areturn, 1) := by decide +kernel
theorem d2_35 : decode method_7_code 35 = .ok (.iload_n 0, 1) := by decide +kernel
theorem d2_36 : decode method_7_code 36 = .ok (.iconst 2, 1) := by decide +kernel
theorem d2_37 : decode method_7_code 37 = .ok (.if_icmp .ne 22, 3) := by decide +kernel
theorem d2_40 : decode method_7_code 40 = .ok (.new 29, 3) := by decide +kernel
theorem d2_43 : decode method_7_code 43 = .ok (.dup, 1) := by decide +kernel
theorem d2_44 : decode method_7_code 44 = .ok (.iconst 2, 1) := by decide +kernel
theorem d2_45 : decode method_7_code 45 = .ok (.newarray .char, 2) := by decide +kernel
theorem d2_47 : decode method_7_code 47 = .ok (.dup, 1) := by decide +kernel
theorem d2_48 : decode method_7_code 48 = .ok (.iconst 0, 1) := by decide +kernel
theorem d2_49 : decode method_7_code 49 = .ok (.iload_n 1, 1) := by decide +kernel
theorem d2_50 : decode method_7_code 50 = .ok (.castore, 1) := by decide +kernel
theorem d2_51 : decode method_7_code 51 = .ok (.dup, 1) := by decide +kernel
theorem d2_52 : decode method_7_code 52 = .ok (.iconst 1, 1) := by decide +kernel
theorem d2_53 : decode method_7_code 53 = .ok (.iload_n 2, 1) := by decide +kernel
theorem d2_54 : decode method_7_code 54 = .ok (.castore, 1) := by decide +kernel
theorem d2_55 : decode method_7_code 55 = .ok (.invokespecial 45, 3) := by decide +kernel
theorem d2_58 : decode method_7_code 58 = .ok (.areturn, 1) := by decide +kernel
theorem d2_59 : decode method_7_code 59 = .ok (.iload_n 0, 1) := by decide +kernel
theorem d2_60 : decode method_7_code 60 = .ok (.iconst 3, 1) := by decide +kernel
theorem d2_61 : decode method_7_code 61 = .ok (.if_icmp .ne 26, 3) := by decide +kernel
theorem d2_64 : decode method_7_code 64 = .ok (.new 29, 3) := by decide +kernel
theorem d2_67 : decode method_7_code 67 = .ok (.dup, 1) := by decide +kernel
theorem d2_68 : decode method_7_code 68 = .ok (.iconst 3, 1) := by decide +kernel
theorem d2_69 : decode method_7_code 69 = .ok (.newarray .char, 2) := by decide +kernel
theorem d2_71 : decode method_7_code 71 = .ok (.dup, 1) := by decide +kernel
theorem d2_72 : decode method_7_code 72 = .ok (.iconst 0, 1) := by decide +kernel
theorem d2_73 : decode method_7_code 73 = .ok (.iload_n 1, 1) := by decide +kernel
theorem d2_74 : decode method_7_code 74 = .ok (.castore, 1) := by decide +kernel
theorem d2_75 : decode method_7_code 75 = .ok (.dup, 1) := by decide +kernel
theorem d2_76 : decode method_7_code 76 = .ok (.iconst 1, 1) := by decide +kernel
theorem d2_77 : decode method_7_code 77 = .ok (.iload_n 2, 1) := by decide +kernel
theorem d2_78 : decode method_7_code 78 = .ok (.castore, 1) := by decide +kernel
theorem d2_79 : decode method_7_code 79 = .ok (.dup, 1) := by decide +kernel
theorem d2_80 : decode method_7_code 80 = .ok (.iconst 2, 1) := by decide +kernel
theorem d2_81 : decode method_7_code 81 = .ok (.iload_n 3, 1) := by decide +kernel
theorem d2_82 : decode method_7_code 82 = .ok (.castore, 1) := by decide +kernel
theorem d2_83 : decode method_7_code 83 = .ok (.invokespecial 45, 3) := by decide +kernel
theorem d2_86 : decode method_7_code 86 = .ok (.areturn, 1) := by decide +kernel
theorem d2_87 : decode method_7_code 87 = .ok (.iload_n 0, 1) := by decide +kernel
theorem d2_88 : decode method_7_code 88 = .ok (.iconst 4, 1) := by decide +kernel
theorem d2_89 : decode method_7_code 89 = .ok (.if_icmp .ne 31, 3) := by decide +kernel
theorem d2_92 : decode method_7_code 92 = .ok (.new 29, 3) := by decide +kernel
theorem d2_95 : decode method_7_code 95 = .ok (.dup, 1) := by decide +kernel
theorem d2_96 : decode method_7_code 96 = .ok (.iconst 4, 1) := by decide +kernel
theorem d2_97 : decode method_7_code 97 = .ok (.newarray .char, 2) := by decide +kernel
theorem d2_99 : decode method_7_code 99 = .ok (.dup, 1) := by decide +kernel
theorem d2_100 : decode method_7_code 100 = .ok (.iconst 0, 1) := by decide +kernel
theorem d2_101 : decode method_7_code 101 = .ok (.iload_n 1, 1) := by decide +kernel
theorem d2_102 : decode method_7_code 102 = .ok (.castore, 1) := by decide +kernel
theorem d2_103 : decode method_7_code 103 = .ok (.dup, 1) := by decide +kernel
theorem d2_104 : decode method_7_code 104 = .ok (.iconst 1, 1) := by decide +kernel
theorem d2_105 : decode method_7_code 105 = .ok (.iload_n 2, 1) := by decide +kernel
theorem d2_106 : decode method_7_code 106 = .ok (.castore, 1) := by decide +kernel
theorem d2_107 : decode method_7_code 107 = .ok (.dup, 1) := by decide +kernel
theorem d2_108 : decode method_7_code 108 = .ok (.iconst 2, 1) := by decide +kernel
theorem d2_109 : decode method_7_code 109 = .ok (.iload_n 3, 1) := by decide +kernel
theorem d2_110 : decode method_7_code 110 = .ok (.castore, 1) := by decide +kernel
theorem d2_111 : decode method_7_code 111 = .ok (.dup, 1) := by decide +kernel
theorem d2_112 : decode method_7_code 112 = .ok (.iconst 3, 1) := by decide +kernel
theorem d2_113 : decode method_7_code 113 = .ok (.iload 4, 2) := by decide +kernel
theorem d2_115 : decode method_7_code 115 = .ok (.castore, 1) := by decide +kernel
theorem d2_116 : decode method_7_code 116 = .ok (.invokespecial 45, 3) := by decide +kernel
theorem d2_119 : decode method_7_code 119 = .ok (.areturn, 1) := by decide +kernel
theorem d2_120 : decode method_7_code 120 = .ok (.new 29, 3) := by decide +kernel
theorem d2_123 : decode method_7_code 123 = .ok (.dup, 1) := by decide +kernel
theorem d2_124 : decode method_7_code 124 = .ok (.iconst 5, 1) := by decide +kernel
theorem d2_125 : decode method_7_code 125 = .ok (.newarray .char, 2) := by decide +kernel
theorem d2_127 : decode method_7_code 127 = .ok (.dup, 1) := by decide +kernel
theorem d2_128 : decode method_7_code 128 = .ok (.iconst 0, 1) := by decide +kernel
theorem d2_129 : decode method_7_code 129 = .ok (.iload_n 1, 1) := by decide +kernel
theorem d2_130 : decode method_7_code 130 = .ok (.castore, 1) := by decide +kernel
theorem d2_131 : decode method_7_code 131 = .ok (.dup, 1) := by decide +kernel
theorem d2_132 : decode method_7_code 132 = .ok (.iconst 1, 1) := by decide +kernel
theorem d2_133 : decode method_7_code 133 = .ok (.iload_n 2, 1) := by decide +kernel
theorem d2_134 : decode method_7_code 134 = .ok (.castore, 1) := by decide +kernel
theorem d2_135 : decode method_7_code 135 = .ok (.dup, 1) := by decide +kernel
theorem d2_136 : decode method_7_code 136 = .ok (.iconst 2, 1) := by decide +kernel
theorem d2_137 : decode method_7_code 137 = .ok (.iload_n 3, 1) := by decide +kernel
theorem d2_138 : decode method_7_code 138 = .ok (.castore, 1) := by decide +kernel
theorem d2_139 : decode method_7_code 139 = .ok (.dup, 1) := by decide +kernel
theorem d2_140 : decode method_7_code 140 = .ok (.iconst 3, 1) := by decide +kernel
theorem d2_141 : decode method_7_code 141 = .ok (.iload 4, 2) := by decide +kernel
theorem d2_143 : decode method_7_code 143 = .ok (.castore, 1) := by decide +kernel
theorem d2_144 : decode method_7_code 144 = .ok (.dup, 1) := by decide +kernel
theorem d2_145 : decode method_7_code 145 = .ok (.iconst 4, 1) := by decide +kernel
theorem d2_146 : decode method_7_code 146 = .ok (.iload 5, 2) := by decide +kernel
theorem d2_148 : decode method_7_code 148 = .ok (.castore, 1) := by decide +kernel
theorem d2_149 : decode method_7_code 149 = .ok (.invokespecial 45, 3) := by decide +kernel
theorem d2_152 : decode method_7_code 152 = .ok (.areturn, 1) := by decide +kernel
theorem ef_make (m : MethodId) (q : Int32) (c0 : Int32) (c1 : Int32) (c2 : Int32) (c3 : Int32) (c4 : Int32) : entryFrame m #[(.int q), (.int c0), (.int c1), (.int c2), (.int c3), (.int c4)] 6 = mkF m 0 #[.val (.int q), .val (.int c0), .val (.int c1), .val (.int c2), .val (.int c3), .val (.int c4)] [] := by first | (simp [entryFrame, mkF, argsToLocals, Value.category, maxLocals]; done) | rfl
def Q_make (Z : State) (q : Int32) (c0 : Int32) (c1 : Int32) (c2 : Int32) (c3 : Int32) (c4 : Int32) (cz : Int32) (fv : Value) (h0 : Heap) (n0 : Nat) : Option Value → Heap → List Loc → Prop := fun v h L => (∃ x' : Addr, v = some (.ref x') ∧ own_Str Z h x' q (own_cs c0 c1 c2 c3 c4)) ∧ Fr n0 L ∧ Keep h0 h []
set_option maxRecDepth 65536 in
set_option maxHeartbeats 40000000 in
theorem rm_make (l : Launch) (Z : State) (a0 : Array Value) (hw : ∀ d ∈ tables_1, d.before a0 Z = true) (ws : List Jvm.Cond) (q : Int32) (c0 : Int32) (c1 : Int32) (c2 : Int32) (c3 : Int32) (c4 : Int32) (cz : Int32) (fv : Value) (h0 : Heap) (n0 : Nat) (Z0 : n0 ≤ h0.size) (hq : 0 ≤ q.toInt ∧ q.toInt ≤ 5) (hr0 : 0 ≤ c0.toInt ∧ c0.toInt ≤ 65535) (hr1 : 0 ≤ c1.toInt ∧ c1.toInt ≤ 65535) (hr2 : 0 ≤ c2.toInt ∧ c2.toInt ≤ 65535) (hr3 : 0 ≤ c3.toInt ∧ c3.toInt ≤ 65535) (hr4 : 0 ≤ c4.toInt ∧ c4.toInt ≤ 65535) (S_cs : Sta Z h0 "java/lang/String" "COMPACT_STRINGS" "Z" (.int cz)) (S_fm : Sta Z h0 "jdk/internal/util/Preconditions" "SIOOBE_FORMATTER" "Ljava/util/function/BiFunction;" fv) (S_as : Sta Z h0 "java/lang/StringUTF16" "$assertionsDisabled" "Z" (.int (1 : Int32))) (S_hi : Sta Z h0 "java/lang/StringUTF16" "HI_BYTE_SHIFT" "I" (.int (0 : Int32))) (S_lo : Sta Z h0 "java/lang/StringUTF16" "LO_BYTE_SHIFT" "I" (.int (8 : Int32))) (hcz : ¬ cz.toInt = 0) (hfv : fv.isRef = true) :
    MetFree l (⟨"com/example/linkvouch/linkvouch/AttributeValueTrimmedPinLaw", "make", "(ICCCCC)Ljava/lang/String;"⟩ : MethodName) (head1 (Jvm.Cond.code (⟨"com/example/linkvouch/linkvouch/AttributeValueTrimmedPinLaw", "make", "(ICCCCC)Ljava/lang/String;"⟩ : MethodName) method_7_code 6 (some (.object "java/lang/String")) :: ws) ({ frames := 6, cells := 4, slots := 24, locals := 90 } : Room)) (fun aX U => aX = #[(.int q), (.int c0), (.int c1), (.int c2), (.int c3), (.int c4)] ∧ Z.Warmed39 U.vm ∧ U.heap = h0 ∧ CHv Z own_EL U.vm h0) (fun _ _ _ _ _ => True) (fun _ U o U' => ∃ v L, o = .returned v ∧ (Q_make Z q c0 c1 c2 c3 c4 cz fv h0 n0) v U'.heap L ∧ CHr Z own_EL U.vm U.heap U'.vm U'.heap ∧ ReturnedEndW U o U' L ({ frames := 6, cells := 4, slots := 24, locals := 90 } : Room).cells ({ frames := 6, cells := 4, slots := 24, locals := 90 } : Room).slots) := by
  refine own_metC (Q := (Q_make Z q c0 c1 c2 c3 c4 cz fv h0 n0)) (plainFor_of_name (x := (⟨"com/example/linkvouch/linkvouch/AttributeValueTrimmedPinLaw", "make", "(ICCCCC)Ljava/lang/String;"⟩ : MethodName)) pn_1) (fun m => ef_make m q c0 c1 c2 c3 c4) ?_
  intro p e s m below meth cD s₁ hx hby hml hret hlk hZ hown hnm X0 e0 hS r0
  have hown : s.vm.findClass "com/example/linkvouch/linkvouch/AttributeValueTrimmedPinLaw" = some m.cls := hown
  have N0 := Fr.nil n0
  refine own_st (fr' := (mkF m 1 #[.val (.int q), .val (.int c0), .val (.int c1), .val (.int c2), .val (.int c3), .val (.int c4)] [(.int q)])) (fun t k => XS.iloadN X0.here hx rfl (hb hby d2_0) rfl  k) ?_
  by_cases hk0 : q.toInt = 0
  · refine own_st (fr' := (mkF m 4 #[.val (.int q), .val (.int c0), .val (.int c1), .val (.int c2), .val (.int c3), .val (.int c4)] [])) (fun t k => XS.ifNo X0.here hx rfl (hb hby d2_1) rfl ((if0 _ _).trans (own_teq (x := q) (y := (0 : Int32)) hk0).2) k) ?_
    obtain ⟨T54, h54, X54, e54, E54, A54, D54, -, st54⟩ := newO X0 hx hZ hown (hw _ (List.mem_of_getElem? (i := 9) rfl)) (hw _ (List.mem_of_getElem? (i := 10) rfl)) (hw _ (List.mem_of_getElem? (i := 11) rfl)) e0 (g := (mkF m 4 #[.val (.int q), .val (.int c0), .val (.int c1), .val (.int c2), .val (.int c3), .val (.int c4)] [])) rfl (hb hby d2_4) (by decide) (by decide)
    obtain ⟨b54, g54⟩ : ∃ z, z = h0.size := ⟨_, rfl⟩
    rw [← g54] at A54 D54 st54
    have ge_b54 : n0 ≤ b54 := Nat.le_trans Z0 (Nat.le_of_eq g54.symm)
    have sz_b54 : h0.size ≤ b54 := Nat.le_trans (Nat.le_refl _) (Nat.le_of_eq g54.symm)
    have r55 := CHr.trans r0 (CHr.ext E54 r0.1)
    have F54_value : Fld Z h54 b54 "java/lang/String" "value" "[B" .null := D54 (Or.inr (hw _ (List.mem_of_getElem? (i := 24) rfl))) (ty := (.array .byte)) (by decide)
    have F54_coder : Fld Z h54 b54 "java/lang/String" "coder" "B" (.int (0 : Int32)) := D54 (Or.inr (hw _ (List.mem_of_getElem? (i := 25) rfl))) (ty := .byte) (by decide)
    refine own_st (fr' := (mkF m 7 #[.val (.int q), .val (.int c0), .val (.int c1), .val (.int c2), .val (.int c3), .val (.int c4)] [(.ref b54)])) st54 ?_
    refine own_st (fr' := (mkF m 8 #[.val (.int q), .val (.int c0), .val (.int c1), .val (.int c2), .val (.int c3), .val (.int c4)] [(.ref b54), (.ref b54)])) (fun t k => XS.dup X54.here hx rfl (hb hby d2_7) rfl rfl k) ?_
    refine own_st (fr' := (mkF m 9 #[.val (.int q), .val (.int c0), .val (.int c1), .val (.int c2), .val (.int c3), .val (.int c4)] [(.int (0 : Int32)), (.ref b54), (.ref b54)])) (fun t k => XS.iconst X54.here hx rfl (hb hby d2_8) k) ?_
    refine own_newarr X54 hx hZ (hw _ (List.mem_of_getElem? (i := 5) rfl)) e54 (hb hby d2_9) (by decide) (cap := 0) (by decide) (by decide) (by decide) (by decide) rfl ?_
    intro T56 h56 b56 g56 X56 e56 E56 V56
    have lt56_b54 : b54 < b56 := Nat.lt_of_lt_of_eq A54.lt g56.symm
    have ne56_b54 : b54 ≠ b56 := Nat.ne_of_lt lt56_b54
    have ge_b56 : n0 ≤ b56 := Nat.le_trans (Nat.le_trans Z0 E54.1) (Nat.le_of_eq g56.symm)
    have sz_b56 : h0.size ≤ b56 := Nat.le_trans (Nat.le_trans (Nat.le_refl _) E54.1) (Nat.le_of_eq g56.symm)
    have r57 := CHr.trans r55 (CHr.ext E56 r55.1)
    refine own_callNC X56 hx hZ hS (Nat.le_trans (Nat.le_trans (Nat.le_refl _) E54.1) E56.1) (own_ew hw) r57 (y := (⟨"java/lang/String", "<init>", "([C)V"⟩ : MethodName)) hown rfl (hw _ (List.mem_of_getElem? (i := 12) rfl)) (hw _ (List.mem_of_getElem? (i := 13) rfl)) (hw _ (List.mem_of_getElem? (i := 11) rfl)) (hw _ (List.mem_of_getElem? (i := 14) rfl)) (by decide) (a := b54) (argsL := [(.ref b56)]) (rest := [(.ref b54)]) (W := 1) (rm_scE l Z a0 hw [] b54 b56 _ h56 n0 (Nat.le_trans (Nat.le_trans Z0 E54.1) E56.1) (A54.ext E56) (F54_value.ext E56) (F54_coder.ext E56) ge_b54 V56) e56  (by rw [hml]; rfl) (lenOf pd_8 rfl) rfl (Nat.le_of_eq rfl) (hb hby d2_11) (by decide) (by decide) (by decide) (by decide) ?_
    intro v58 T58 L58 vm58 X58 hQ58 hZ hown hS rc58 r58
    obtain ⟨⟨b, rfl, VB, G1, G2⟩, Nq58, K58⟩ := hQ58
    have N58 := Fr.app N0 Nq58
    exact own_retC X58 hx hlk hZ hS (Nat.le_refl _) (own_ew hw) r58 rfl hret rfl (Or.inr (Or.inr (Or.inr (Or.inr ⟨rfl, rfl, rfl⟩)))) (hb hby d2_14) (by decide) (by decide) (by rw [show q = (0 : Int32) from Int32.toInt_inj.mp (by exact hk0)]; exact ⟨⟨b54, rfl, b, 0, _, 0, ((A54.ext E56).keep K58), G1, G2, VB, Or.inl ⟨rfl, rfl, fun i hi => absurd hi (by show ¬ (i : Int) < 0; omega)⟩⟩, N58, (Keep.trans (Keep.ext (Keep.ext (Keep.refl h0 []) E54) E56) K58 (allS (Or.inr sz_b54) all0))⟩)
  · refine own_st (fr' := (mkF m 15 #[.val (.int q), .val (.int c0), .val (.int c1), .val (.int c2), .val (.int c3), .val (.int c4)] [])) (fun t k => XS.ifYes X0.here hx rfl (pc0 := 1) (pc' := 15) rfl (hb hby d2_1) rfl ((if0 _ _).trans (own_feq (x := q) (y := (0 : Int32)) hk0).2) (by decide) (by decide) k) ?_
    refine own_st (fr' := (mkF m 16 #[.val (.int q), .val (.int c0), .val (.int c1), .val (.int c2), .val (.int c3), .val (.int c4)] [(.int q)])) (fun t k => XS.iloadN X0.here hx rfl (hb hby d2_15) rfl  k) ?_
    refine own_st (fr' := (mkF m 17 #[.val (.int q), .val (.int c0), .val (.int c1), .val (.int c2), .val (.int c3), .val (.int c4)] [(.int (1 : Int32)), (.int q)])) (fun t k => XS.iconst X0.here hx rfl (hb hby d2_16) k) ?_
    by_cases hk1 : q.toInt = 1
    · refine own_st (fr' := (mkF m 20 #[.val (.int q), .val (.int c0), .val (.int c1), .val (.int c2), .val (.int c3), .val (.int c4)] [])) (fun t k => XS.icmpNo X0.here hx rfl (hb hby d2_17) rfl (own_teq (x := q) (y := (1 : Int32)) hk1).2 k) ?_
      obtain ⟨T59, h59, X59, e59, E59, A59, D59, -, st59⟩ := newO X0 hx hZ hown (hw _ (List.mem_of_getElem? (i := 9) rfl)) (hw _ (List.mem_of_getElem? (i := 10) rfl)) (hw _ (List.mem_of_getElem? (i := 11) rfl)) e0 (g := (mkF m 20 #[.val (.int q), .val (.int c0), .val (.int c1), .val (.int c2), .val (.int c3), .val (.int c4)] [])) rfl (hb hby d2_20) (by decide) (by decide)
      obtain ⟨b59, g59⟩ : ∃ z, z = h0.size := ⟨_, rfl⟩
      rw [← g59] at A59 D59 st59
      have ge_b59 : n0 ≤ b59 := Nat.le_trans Z0 (Nat.le_of_eq g59.symm)
      have sz_b59 : h0.size ≤ b59 := Nat.le_trans (Nat.le_refl _) (Nat.le_of_eq g59.symm)
      have r60 := CHr.trans r0 (CHr.ext E59 r0.1)
      have F59_value : Fld Z h59 b59 "java/lang/String" "value" "[B" .null := D59 (Or.inr (hw _ (List.mem_of_getElem? (i := 24) rfl))) (ty := (.array .byte)) (by decide)
      have F59_coder : Fld Z h59 b59 "java/lang/String" "coder" "B" (.int (0 : Int32)) := D59 (Or.inr (hw _ (List.mem_of_getElem? (i := 25) rfl))) (ty := .byte) (by decide)
      refine own_st (fr' := (mkF m 23 #[.val (.int q), .val (.int c0), .val (.int c1), .val (.int c2), .val (.int c3), .val (.int c4)] [(.ref b59)])) st59 ?_
      refine own_st (fr' := (mkF m 24 #[.val (.int q), .val (.int c0), .val (.int c1), .val (.int c2), .val (.int c3), .val (.int c4)] [(.ref b59), (.ref b59)])) (fun t k => XS.dup X59.here hx rfl (hb hby d2_23) rfl rfl k) ?_
      refine own_st (fr' := (mkF m 25 #[.val (.int q), .val (.int c0), .val (.int c1), .val (.int c2), .val (.int c3), .val (.int c4)] [(.int (1 : Int32)), (.ref b59), (.ref b59)])) (fun t k => XS.iconst X59.here hx rfl (hb hby d2_24) k) ?_
      refine own_newarr X59 hx hZ (hw _ (List.mem_of_getElem? (i := 5) rfl)) e59 (hb hby d2_25) (by decide) (cap := 1) (by decide) (by decide) (by decide) (by decide) rfl ?_
      intro T61 h61 b61 g61 X61 e61 E61 V61
      have lt61_b59 : b59 < b61 := Nat.lt_of_lt_of_eq A59.lt g61.symm
      have ne61_b59 : b59 ≠ b61 := Nat.ne_of_lt lt61_b59
      have ge_b61 : n0 ≤ b61 := Nat.le_trans (Nat.le_trans Z0 E59.1) (Nat.le_of_eq g61.symm)
      have sz_b61 : h0.size ≤ b61 := Nat.le_trans (Nat.le_trans (Nat.le_refl _) E59.1) (Nat.le_of_eq g61.symm)
      have r62 := CHr.trans r60 (CHr.ext E61 r60.1)
      refine own_st (fr' := (mkF m 28 #[.val (.int q), .val (.int c0), .val (.int c1), .val (.int c2), .val (.int c3), .val (.int c4)] [(.ref b61), (.ref b61), (.ref b59), (.ref b59)])) (fun t k => XS.dup X61.here hx rfl (hb hby d2_27) rfl rfl k) ?_
      refine own_st (fr' := (mkF m 29 #[.val (.int q), .val (.int c0), .val (.int c1), .val (.int c2), .val (.int c3), .val (.int c4)] [(.int (0 : Int32)), (.ref b61), (.ref b61), (.ref b59), (.ref b59)])) (fun t k => XS.iconst X61.here hx rfl (hb hby d2_28) k) ?_
      refine own_st (fr' := (mkF m 30 #[.val (.int q), .val (.int c0), .val (.int c1), .val (.int c2), .val (.int c3), .val (.int c4)] [(.int c0), (.int (0 : Int32)), (.ref b61), (.ref b61), (.ref b59), (.ref b59)])) (fun t k => XS.iloadN X61.here hx rfl (hb hby d2_29) rfl  k) ?_
      refine own_castore X61 hx hZ e61 V61 (by decide) (by decide) (hb hby d2_30) ?_
      intro T63 h63 X63 e63 W63 V63
      have N63 := Fr.snoc X63 N0 ge_b61
      have r64 := CHr.trans r62 (CHr.wr W63 (own_safeA hZ V61 (by decide)) r62.1)
      have hc : own_A Z h63 b61 .char 1 (fun i => Value.int ((own_cs c0 c1 c2 c3 c4) i)) := own_A.congr V63 (fun i hi => by
        have k1 : ((1 : Int32)).toInt = 1 := rfl
        rcases (by omega : i = 0) with rfl
        · show Value.int (nar .char c0) = .int c0; rw [own_nch hr0])
      refine own_callN X63 hx hZ (y := (⟨"java/lang/String", "<init>", "([C)V"⟩ : MethodName)) hown rfl (hw _ (List.mem_of_getElem? (i := 12) rfl)) (hw _ (List.mem_of_getElem? (i := 13) rfl)) (hw _ (List.mem_of_getElem? (i := 11) rfl)) (hw _ (List.mem_of_getElem? (i := 14) rfl)) (by decide) (a := b59) (argsL := [(.ref b61)]) (rest := [(.ref b59)]) (W := 1) (rm_scA l Z a0 hw [] b59 b61 1 (own_cs c0 c1 c2 c3 c4) cz fv h63 n0 (Nat.le_trans (Nat.le_trans (Nat.le_trans Z0 E59.1) E61.1) (Nat.le_of_eq (Wr.size W63).symm)) (Exa.wr W63 (A59.ext E61)) (Fld.other W63 (F59_value.ext E61) (Or.inl ne61_b59)) (Fld.other W63 (F59_coder.ext E61) (Or.inl ne61_b59)) hc (by decide) (own_csR hr0 hr1 hr2 hr3 hr4) ge_b59 (Sta.wr W63 (Sta.ext E61 (Sta.ext E59 S_cs))) (Sta.wr W63 (Sta.ext E61 (Sta.ext E59 S_fm))) (Sta.wr W63 (Sta.ext E61 (Sta.ext E59 S_as))) (Sta.wr W63 (Sta.ext E61 (Sta.ext E59 S_hi))) (Sta.wr W63 (Sta.ext E61 (Sta.ext E59 S_lo))) hcz hfv) e63 (by rw [hml]; rfl) (lenOf pd_8 rfl) rfl (Nat.le_of_eq rfl) (hb hby d2_31) (by decide) (by decide) (by decide) (by decide) ?_
      intro v65 T65 L65 X65 hQ65
      obtain ⟨⟨rr, nb, gg, cod, rfl, hr, VR, HB, G1, G2⟩, Nq65, K65⟩ := hQ65
      have N65 := Fr.app N63 Nq65
      have r66 := CHr.trans r64 (CHr.keep K65 (allS (own_safeN hZ (Exa.wr W63 (A59.ext E61)) (Fld.other W63 (F59_value.ext E61) (Or.inl ne61_b59))) all0) r64.1)
      exact own_retC X65 hx hlk hZ hS (Nat.le_trans (Nat.le_trans (Nat.le_trans (Nat.le_trans (Nat.le_refl _) E59.1) E61.1) (Nat.le_of_eq (Wr.size W63).symm)) K65.1) (own_ew hw) r66 rfl hret rfl (Or.inr (Or.inr (Or.inr (Or.inr ⟨rfl, rfl, rfl⟩)))) (hb hby d2_34) (by decide) (by decide) (by rw [show q = (1 : Int32) from Int32.toInt_inj.mp (by exact hk1)]; exact ⟨⟨b59, rfl, rr, nb, gg, cod, ((Exa.wr W63 (A59.ext E61)).keep K65), G1, G2, VR, HB⟩, N65, (Keep.trans (Keep.wr (Keep.ext (Keep.ext (Keep.refl h0 []) E59) E61) W63 (Or.inr sz_b61)) K65 (allS (Or.inr sz_b59) all0))⟩)
    · refine own_st (fr' := (mkF m 35 #[.val (.int q), .val (.int c0), .val (.int c1), .val (.int c2), .val (.int c3), .val (.int c4)] [])) (fun t k => XS.icmpYes X0.here hx rfl (pc0 := 17) (pc' := 35) rfl (hb hby d2_17) rfl (own_feq (x := q) (y := (1 : Int32)) hk1).2 (by decide) (by decide) k) ?_
      refine own_st (fr' := (mkF m 36 #[.val (.int q), .val (.int c0), .val (.int c1), .val (.int c2), .val (.int c3), .val (.int c4)] [(.int q)])) (fun t k => XS.iloadN X0.here hx rfl (hb hby d2_35) rfl  k) ?_
      refine own_st (fr' := (mkF m 37 #[.val (.int q), .val (.int c0), .val (.int c1), .val (.int c2), .val (.int c3), .val (.int c4)] [(.int (2 : Int32)), (.int q)])) (fun t k => XS.iconst X0.here hx rfl (hb hby d2_36) k) ?_
      by_cases hk2 : q.toInt = 2
      · refine own_st (fr' := (mkF m 40 #[.val (.int q), .val (.int c0), .val (.int c1), .val (.int c2), .val (.int c3), .val (.int c4)] [])) (fun t k => XS.icmpNo X0.here hx rfl (hb hby d2_37) rfl (own_teq (x := q) (y := (2 : Int32)) hk2).2 k) ?_
        obtain ⟨T67, h67, X67, e67, E67, A67, D67, -, st67⟩ := newO X0 hx hZ hown (hw _ (List.mem_of_getElem? (i := 9) rfl)) (hw _ (List.mem_of_getElem? (i := 10) rfl)) (hw _ (List.mem_of_getElem? (i := 11) rfl)) e0 (g := (mkF m 40 #[.val (.int q), .val (.int c0), .val (.int c1), .val (.int c2), .val (.int c3), .val (.int c4)] [])) rfl (hb hby d2_40) (by decide) (by decide)
        obtain ⟨b67, g67⟩ : ∃ z, z = h0.size := ⟨_, rfl⟩
        rw [← g67] at A67 D67 st67
        have ge_b67 : n0 ≤ b67 := Nat.le_trans Z0 (Nat.le_of_eq g67.symm)
        have sz_b67 : h0.size ≤ b67 := Nat.le_trans (Nat.le_refl _) (Nat.le_of_eq g67.symm)
        have r68 := CHr.trans r0 (CHr.ext E67 r0.1)
        have F67_value : Fld Z h67 b67 "java/lang/String" "value" "[B" .null := D67 (Or.inr (hw _ (List.mem_of_getElem? (i := 24) rfl))) (ty := (.array .byte)) (by decide)
        have F67_coder : Fld Z h67 b67 "java/lang/String" "coder" "B" (.int (0 : Int32)) := D67 (Or.inr (hw _ (List.mem_of_getElem? (i := 25) rfl))) (ty := .byte) (by decide)
        refine own_st (fr' := (mkF m 43 #[.val (.int q), .val (.int c0), .val (.int c1), .val (.int c2), .val (.int c3), .val (.int c4)] [(.ref b67)])) st67 ?_
        refine own_st (fr' := (mkF m 44 #[.val (.int q), .val (.int c0), .val (.int c1), .val (.int c2), .val (.int c3), .val (.int c4)] [(.ref b67), (.ref b67)])) (fun t k => XS.dup X67.here hx rfl (hb hby d2_43) rfl rfl k) ?_
        refine own_st (fr' := (mkF m 45 #[.val (.int q), .val (.int c0), .val (.int c1), .val (.int c2), .val (.int c3), .val (.int c4)] [(.int (2 : Int32)), (.ref b67), (.ref b67)])) (fun t k => XS.iconst X67.here hx rfl (hb hby d2_44) k) ?_
        refine own_newarr X67 hx hZ (hw _ (List.mem_of_getElem? (i := 5) rfl)) e67 (hb hby d2_45) (by decide) (cap := 2) (by decide) (by decide) (by decide) (by decide) rfl ?_
        intro T69 h69 b69 g69 X69 e69 E69 V69
        have lt69_b67 : b67 < b69 := Nat.lt_of_lt_of_eq A67.lt g69.symm
        have ne69_b67 : b67 ≠ b69 := Nat.ne_of_lt lt69_b67
        have ge_b69 : n0 ≤ b69 := Nat.le_trans (Nat.le_trans Z0 E67.1) (Nat.le_of_eq g69.symm)
        have sz_b69 : h0.size ≤ b69 := Nat.le_trans (Nat.le_trans (Nat.le_refl _) E67.1) (Nat.le_of_eq g69.symm)
        have r70 := CHr.trans r68 (CHr.ext E69 r68.1)
        refine own_st (fr' := (mkF m 48 #[.val (.int q), .val (.int c0), .val (.int c1), .val (.int c2), .val (.int c3), .val (.int c4)] [(.ref b69), (.ref b69), (.ref b67), (.ref b67)])) (fun t k => XS.dup X69.here hx rfl (hb hby d2_47) rfl rfl k) ?_
        refine own_st (fr' := (mkF m 49 #[.val (.int q), .val (.int c0), .val (.int c1), .val (.int c2), .val (.int c3), .val (.int c4)] [(.int (0 : Int32)), (.ref b69), (.ref b69), (.ref b67), (.ref b67)])) (fun t k => XS.iconst X69.here hx rfl (hb hby d2_48) k) ?_
        refine own_st (fr' := (mkF m 50 #[.val (.int q), .val (.int c0), .val (.int c1), .val (.int c2), .val (.int c3), .val (.int c4)] [(.int c0), (.int (0 : Int32)), (.ref b69), (.ref b69), (.ref b67), (.ref b67)])) (fun t k => XS.iloadN X69.here hx rfl (hb hby d2_49) rfl  k) ?_
        refine own_castore X69 hx hZ e69 V69 (by decide) (by decide) (hb hby d2_50) ?_
        intro T71 h71 X71 e71 W71 V71
        have N71 := Fr.snoc X71 N0 ge_b69
        have r72 := CHr.trans r70 (CHr.wr W71 (own_safeA hZ V69 (by decide)) r70.1)
        refine own_st (fr' := (mkF m 52 #[.val (.int q), .val (.int c0), .val (.int c1), .val (.int c2), .val (.int c3), .val (.int c4)] [(.ref b69), (.ref b69), (.ref b67), (.ref b67)])) (fun t k => XS.dup X71.here hx rfl (hb hby d2_51) rfl rfl k) ?_
        refine own_st (fr' := (mkF m 53 #[.val (.int q), .val (.int c0), .val (.int c1), .val (.int c2), .val (.int c3), .val (.int c4)] [(.int (1 : Int32)), (.ref b69), (.ref b69), (.ref b67), (.ref b67)])) (fun t k => XS.iconst X71.here hx rfl (hb hby d2_52) k) ?_
        refine own_st (fr' := (mkF m 54 #[.val (.int q), .val (.int c0), .val (.int c1), .val (.int c2), .val (.int c3), .val (.int c4)] [(.int c1), (.int (1 : Int32)), (.ref b69), (.ref b69), (.ref b67), (.ref b67)])) (fun t k => XS.iloadN X71.here hx rfl (hb hby d2_53) rfl  k) ?_
        refine own_castore X71 hx hZ e71 V71 (by decide) (by decide) (hb hby d2_54) ?_
        intro T73 h73 X73 e73 W73 V73
        have N73 := Fr.snoc X73 N71 ge_b69
        have r74 := CHr.trans r72 (CHr.wr W73 (own_safeA hZ V71 (by decide)) r72.1)
        have hc : own_A Z h73 b69 .char 2 (fun i => Value.int ((own_cs c0 c1 c2 c3 c4) i)) := own_A.congr V73 (fun i hi => by
          have k1 : ((2 : Int32)).toInt = 2 := rfl
          rcases (by omega : i = 0 ∨ i = 1) with rfl | rfl
          · show Value.int (nar .char c0) = .int c0; rw [own_nch hr0]
          · show Value.int (nar .char c1) = .int c1; rw [own_nch hr1])
        refine own_callN X73 hx hZ (y := (⟨"java/lang/String", "<init>", "([C)V"⟩ : MethodName)) hown rfl (hw _ (List.mem_of_getElem? (i := 12) rfl)) (hw _ (List.mem_of_getElem? (i := 13) rfl)) (hw _ (List.mem_of_getElem? (i := 11) rfl)) (hw _ (List.mem_of_getElem? (i := 14) rfl)) (by decide) (a := b67) (argsL := [(.ref b69)]) (rest := [(.ref b67)]) (W := 1) (rm_scA l Z a0 hw [] b67 b69 2 (own_cs c0 c1 c2 c3 c4) cz fv h73 n0 (Nat.le_trans (Nat.le_trans (Nat.le_trans (Nat.le_trans Z0 E67.1) E69.1) (Nat.le_of_eq (Wr.size W71).symm)) (Nat.le_of_eq (Wr.size W73).symm)) (Exa.wr W73 (Exa.wr W71 (A67.ext E69))) (Fld.other W73 (Fld.other W71 (F67_value.ext E69) (Or.inl ne69_b67)) (Or.inl ne69_b67)) (Fld.other W73 (Fld.other W71 (F67_coder.ext E69) (Or.inl ne69_b67)) (Or.inl ne69_b67)) hc (by decide) (own_csR hr0 hr1 hr2 hr3 hr4) ge_b67 (Sta.wr W73 (Sta.wr W71 (Sta.ext E69 (Sta.ext E67 S_cs)))) (Sta.wr W73 (Sta.wr W71 (Sta.ext E69 (Sta.ext E67 S_fm)))) (Sta.wr W73 (Sta.wr W71 (Sta.ext E69 (Sta.ext E67 S_as)))) (Sta.wr W73 (Sta.wr W71 (Sta.ext E69 (Sta.ext E67 S_hi)))) (Sta.wr W73 (Sta.wr W71 (Sta.ext E69 (Sta.ext E67 S_lo)))) hcz hfv) e73 (by rw [hml]; rfl) (lenOf pd_8 rfl) rfl (Nat.le_of_eq rfl) (hb hby d2_55) (by decide) (by decide) (by decide) (by decide) ?_
        intro v75 T75 L75 X75 hQ75
        obtain ⟨⟨rr, nb, gg, cod, rfl, hr, VR, HB, G1, G2⟩, Nq75, K75⟩ := hQ75
        have N75 := Fr.app N73 Nq75
        have r76 := CHr.trans r74 (CHr.keep K75 (allS (own_safeN hZ (Exa.wr W73 (Exa.wr W71 (A67.ext E69))) (Fld.other W73 (Fld.other W71 (F67_value.ext E69) (Or.inl ne69_b67)) (Or.inl ne69_b67))) all0) r74.1)
        exact own_retC X75 hx hlk hZ hS (Nat.le_trans (Nat.le_trans (Nat.le_trans (Nat.le_trans (Nat.le_trans (Nat.le_refl _) E67.1) E69.1) (Nat.le_of_eq (Wr.size W71).symm)) (Nat.le_of_eq (Wr.size W73).symm)) K75.1) (own_ew hw) r76 rfl hret rfl (Or.inr (Or.inr (Or.inr (Or.inr ⟨rfl, rfl, rfl⟩)))) (hb hby d2_58) (by decide) (by decide) (by rw [show q = (2 : Int32) from Int32.toInt_inj.mp (by exact hk2)]; exact ⟨⟨b67, rfl, rr, nb, gg, cod, ((Exa.wr W73 (Exa.wr W71 (A67.ext E69))).keep K75), G1, G2, VR, HB⟩, N75, (Keep.trans (Keep.wr (Keep.wr (Keep.ext (Keep.ext (Keep.refl h0 []) E67) E69) W71 (Or.inr sz_b69)) W73 (Or.inr sz_b69)) K75 (allS (Or.inr sz_b67) all0))⟩)
      · refine own_st (fr' := (mkF m 59 #[.val (.int q), .val (.int c0), .val (.int c1), .val (.int c2), .val (.int c3), .val (.int c4)] [])) (fun t k => XS.icmpYes X0.here hx rfl (pc0 := 37) (pc' := 59) rfl (hb hby d2_37) rfl (own_feq (x := q) (y := (2 : Int32)) hk2).2 (by decide) (by decide) k) ?_
        refine own_st (fr' := (mkF m 60 #[.val (.int q), .val (.int c0), .val (.int c1), .val (.int c2), .val (.int c3), .val (.int c4)] [(.int q)])) (fun t k => XS.iloadN X0.here hx rfl (hb hby d2_59) rfl  k) ?_
        refine own_st (fr' := (mkF m 61 #[.val (.int q), .val (.int c0), .val (.int c1), .val (.int c2), .val (.int c3), .val (.int c4)] [(.int (3 : Int32)), (.int q)])) (fun t k => XS.iconst X0.here hx rfl (hb hby d2_60) k) ?_
        by_cases hk3 : q.toInt = 3
        · refine own_st (fr' := (mkF m 64 #[.val (.int q), .val (.int c0), .val (.int c1), .val (.int c2), .val (.int c3), .val (.int c4)] [])) (fun t k => XS.icmpNo X0.here hx rfl (hb hby d2_61) rfl (own_teq (x := q) (y := (3 : Int32)) hk3).2 k) ?_
          obtain ⟨T77, h77, X77, e77, E77, A77, D77, -, st77⟩ := newO X0 hx hZ hown (hw _ (List.mem_of_getElem? (i := 9) rfl)) (hw _ (List.mem_of_getElem? (i := 10) rfl)) (hw _ (List.mem_of_getElem? (i := 11) rfl)) e0 (g := (mkF m 64 #[.val (.int q), .val (.int c0), .val (.int c1), .val (.int c2), .val (.int c3), .val (.int c4)] [])) rfl (hb hby d2_64) (by decide) (by decide)
          obtain ⟨b77, g77⟩ : ∃ z, z = h0.size := ⟨_, rfl⟩
          rw [← g77] at A77 D77 st77
          have ge_b77 : n0 ≤ b77 := Nat.le_trans Z0 (Nat.le_of_eq g77.symm)
          have sz_b77 : h0.size ≤ b77 := Nat.le_trans (Nat.le_refl _) (Nat.le_of_eq g77.symm)
          have r78 := CHr.trans r0 (CHr.ext E77 r0.1)
          have F77_value : Fld Z h77 b77 "java/lang/String" "value" "[B" .null := D77 (Or.inr (hw _ (List.mem_of_getElem? (i := 24) rfl))) (ty := (.array .byte)) (by decide)
          have F77_coder : Fld Z h77 b77 "java/lang/String" "coder" "B" (.int (0 : Int32)) := D77 (Or.inr (hw _ (List.mem_of_getElem? (i := 25) rfl))) (ty := .byte) (by decide)
          refine own_st (fr' := (mkF m 67 #[.val (.int q), .val (.int c0), .val (.int c1), .val (.int c2), .val (.int c3), .val (.int c4)] [(.ref b77)])) st77 ?_
          refine own_st (fr' := (mkF m 68 #[.val (.int q), .val (.int c0), .val (.int c1), .val (.int c2), .val (.int c3), .val (.int c4)] [(.ref b77), (.ref b77)])) (fun t k => XS.dup X77.here hx rfl (hb hby d2_67) rfl rfl k) ?_
          refine own_st (fr' := (mkF m 69 #[.val (.int q), .val (.int c0), .val (.int c1), .val (.int c2), .val (.int c3), .val (.int c4)] [(.int (3 : Int32)), (.ref b77), (.ref b77)])) (fun t k => XS.iconst X77.here hx rfl (hb hby d2_68) k) ?_
          refine own_newarr X77 hx hZ (hw _ (List.mem_of_getElem? (i := 5) rfl)) e77 (hb hby d2_69) (by decide) (cap := 3) (by decide) (by decide) (by decide) (by decide) rfl ?_
          intro T79 h79 b79 g79 X79 e79 E79 V79
          have lt79_b77 : b77 < b79 := Nat.lt_of_lt_of_eq A77.lt g79.symm
          have ne79_b77 : b77 ≠ b79 := Nat.ne_of_lt lt79_b77
          have ge_b79 : n0 ≤ b79 := Nat.le_trans (Nat.le_trans Z0 E77.1) (Nat.le_of_eq g79.symm)
          have sz_b79 : h0.size ≤ b79 := Nat.le_trans (Nat.le_trans (Nat.le_refl _) E77.1) (Nat.le_of_eq g79.symm)
          have r80 := CHr.trans r78 (CHr.ext E79 r78.1)
          refine own_st (fr' := (mkF m 72 #[.val (.int q), .val (.int c0), .val (.int c1), .val (.int c2), .val (.int c3), .val (.int c4)] [(.ref b79), (.ref b79), (.ref b77), (.ref b77)])) (fun t k => XS.dup X79.here hx rfl (hb hby d2_71) rfl rfl k) ?_
          refine own_st (fr' := (mkF m 73 #[.val (.int q), .val (.int c0), .val (.int c1), .val (.int c2), .val (.int c3), .val (.int c4)] [(.int (0 : Int32)), (.ref b79), (.ref b79), (.ref b77), (.ref b77)])) (fun t k => XS.iconst X79.here hx rfl (hb hby d2_72) k) ?_
          refine own_st (fr' := (mkF m 74 #[.val (.int q), .val (.int c0), .val (.int c1), .val (.int c2), .val (.int c3), .val (.int c4)] [(.int c0), (.int (0 : Int32)), (.ref b79), (.ref b79), (.ref b77), (.ref b77)])) (fun t k => XS.iloadN X79.here hx rfl (hb hby d2_73) rfl  k) ?_
          refine own_castore X79 hx hZ e79 V79 (by decide) (by decide) (hb hby d2_74) ?_
          intro T81 h81 X81 e81 W81 V81
          have N81 := Fr.snoc X81 N0 ge_b79
          have r82 := CHr.trans r80 (CHr.wr W81 (own_safeA hZ V79 (by decide)) r80.1)
          refine own_st (fr' := (mkF m 76 #[.val (.int q), .val (.int c0), .val (.int c1), .val (.int c2), .val (.int c3), .val (.int c4)] [(.ref b79), (.ref b79), (.ref b77), (.ref b77)])) (fun t k => XS.dup X81.here hx rfl (hb hby d2_75) rfl rfl k) ?_
          refine own_st (fr' := (mkF m 77 #[.val (.int q), .val (.int c0), .val (.int c1), .val (.int c2), .val (.int c3), .val (.int c4)] [(.int (1 : Int32)), (.ref b79), (.ref b79), (.ref b77), (.ref b77)])) (fun t k => XS.iconst X81.here hx rfl (hb hby d2_76) k) ?_
          refine own_st (fr' := (mkF m 78 #[.val (.int q), .val (.int c0), .val (.int c1), .val (.int c2), .val (.int c3), .val (.int c4)] [(.int c1), (.int (1 : Int32)), (.ref b79), (.ref b79), (.ref b77), (.ref b77)])) (fun t k => XS.iloadN X81.here hx rfl (hb hby d2_77) rfl  k) ?_
          refine own_castore X81 hx hZ e81 V81 (by decide) (by decide) (hb hby d2_78) ?_
          intro T83 h83 X83 e83 W83 V83
          have N83 := Fr.snoc X83 N81 ge_b79
          have r84 := CHr.trans r82 (CHr.wr W83 (own_safeA hZ V81 (by decide)) r82.1)
          refine own_st (fr' := (mkF m 80 #[.val (.int q), .val (.int c0), .val (.int c1), .val (.int c2), .val (.int c3), .val (.int c4)] [(.ref b79), (.ref b79), (.ref b77), (.ref b77)])) (fun t k => XS.dup X83.here hx rfl (hb hby d2_79) rfl rfl k) ?_
          refine own_st (fr' := (mkF m 81 #[.val (.int q), .val (.int c0), .val (.int c1), .val (.int c2), .val (.int c3), .val (.int c4)] [(.int (2 : Int32)), (.ref b79), (.ref b79), (.ref b77), (.ref b77)])) (fun t k => XS.iconst X83.here hx rfl (hb hby d2_80) k) ?_
          refine own_st (fr' := (mkF m 82 #[.val (.int q), .val (.int c0), .val (.int c1), .val (.int c2), .val (.int c3), .val (.int c4)] [(.int c2), (.int (2 : Int32)), (.ref b79), (.ref b79), (.ref b77), (.ref b77)])) (fun t k => XS.iloadN X83.here hx rfl (hb hby d2_81) rfl  k) ?_
          refine own_castore X83 hx hZ e83 V83 (by decide) (by decide) (hb hby d2_82) ?_
          intro T85 h85 X85 e85 W85 V85
          have N85 := Fr.snoc X85 N83 ge_b79
          have r86 := CHr.trans r84 (CHr.wr W85 (own_safeA hZ V83 (by decide)) r84.1)
          have hc : own_A Z h85 b79 .char 3 (fun i => Value.int ((own_cs c0 c1 c2 c3 c4) i)) := own_A.congr V85 (fun i hi => by
            have k1 : ((3 : Int32)).toInt = 3 := rfl
            rcases (by omega : i = 0 ∨ i = 1 ∨ i = 2) with rfl | rfl | rfl
            · show Value.int (nar .char c0) = .int c0; rw [own_nch hr0]
            · show Value.int (nar .char c1) = .int c1; rw [own_nch hr1]
            · show Value.int (nar .char c2) = .int c2; rw [own_nch hr2])
          refine own_callN X85 hx hZ (y := (⟨"java/lang/String", "<init>", "([C)V"⟩ : MethodName)) hown rfl (hw _ (List.mem_of_getElem? (i := 12) rfl)) (hw _ (List.mem_of_getElem? (i := 13) rfl)) (hw _ (List.mem_of_getElem? (i := 11) rfl)) (hw _ (List.mem_of_getElem? (i := 14) rfl)) (by decide) (a := b77) (argsL := [(.ref b79)]) (rest := [(.ref b77)]) (W := 1) (rm_scA l Z a0 hw [] b77 b79 3 (own_cs c0 c1 c2 c3 c4) cz fv h85 n0 (Nat.le_trans (Nat.le_trans (Nat.le_trans (Nat.le_trans (Nat.le_trans Z0 E77.1) E79.1) (Nat.le_of_eq (Wr.size W81).symm)) (Nat.le_of_eq (Wr.size W83).symm)) (Nat.le_of_eq (Wr.size W85).symm)) (Exa.wr W85 (Exa.wr W83 (Exa.wr W81 (A77.ext E79)))) (Fld.other W85 (Fld.other W83 (Fld.other W81 (F77_value.ext E79) (Or.inl ne79_b77)) (Or.inl ne79_b77)) (Or.inl ne79_b77)) (Fld.other W85 (Fld.other W83 (Fld.other W81 (F77_coder.ext E79) (Or.inl ne79_b77)) (Or.inl ne79_b77)) (Or.inl ne79_b77)) hc (by decide) (own_csR hr0 hr1 hr2 hr3 hr4) ge_b77 (Sta.wr W85 (Sta.wr W83 (Sta.wr W81 (Sta.ext E79 (Sta.ext E77 S_cs))))) (Sta.wr W85 (Sta.wr W83 (Sta.wr W81 (Sta.ext E79 (Sta.ext E77 S_fm))))) (Sta.wr W85 (Sta.wr W83 (Sta.wr W81 (Sta.ext E79 (Sta.ext E77 S_as))))) (Sta.wr W85 (Sta.wr W83 (Sta.wr W81 (Sta.ext E79 (Sta.ext E77 S_hi))))) (Sta.wr W85 (Sta.wr W83 (Sta.wr W81 (Sta.ext E79 (Sta.ext E77 S_lo))))) hcz hfv) e85 (by rw [hml]; rfl) (lenOf pd_8 rfl) rfl (Nat.le_of_eq rfl) (hb hby d2_83) (by decide) (by decide) (by decide) (by decide) ?_
          intro v87 T87 L87 X87 hQ87
          obtain ⟨⟨rr, nb, gg, cod, rfl, hr, VR, HB, G1, G2⟩, Nq87, K87⟩ := hQ87
          have N87 := Fr.app N85 Nq87
          have r88 := CHr.trans r86 (CHr.keep K87 (allS (own_safeN hZ (Exa.wr W85 (Exa.wr W83 (Exa.wr W81 (A77.ext E79)))) (Fld.other W85 (Fld.other W83 (Fld.other W81 (F77_value.ext E79) (Or.inl ne79_b77)) (Or.inl ne79_b77)) (Or.inl ne79_b77))) all0) r86.1)
          exact own_retC X87 hx hlk hZ hS (Nat.le_trans (Nat.le_trans (Nat.le_trans (Nat.le_trans (Nat.le_trans (Nat.le_trans (Nat.le_refl _) E77.1) E79.1) (Nat.le_of_eq (Wr.size W81).symm)) (Nat.le_of_eq (Wr.size W83).symm)) (Nat.le_of_eq (Wr.size W85).symm)) K87.1) (own_ew hw) r88 rfl hret rfl (Or.inr (Or.inr (Or.inr (Or.inr ⟨rfl, rfl, rfl⟩)))) (hb hby d2_86) (by decide) (by decide) (by rw [show q = (3 : Int32) from Int32.toInt_inj.mp (by exact hk3)]; exact ⟨⟨b77, rfl, rr, nb, gg, cod, ((Exa.wr W85 (Exa.wr W83 (Exa.wr W81 (A77.ext E79)))).keep K87), G1, G2, VR, HB⟩, N87, (Keep.trans (Keep.wr (Keep.wr (Keep.wr (Keep.ext (Keep.ext (Keep.refl h0 []) E77) E79) W81 (Or.inr sz_b79)) W83 (Or.inr sz_b79)) W85 (Or.inr sz_b79)) K87 (allS (Or.inr sz_b77) all0))⟩)
        · refine own_st (fr' := (mkF m 87 #[.val (.int q), .val (.int c0), .val (.int c1), .val (.int c2), .val (.int c3), .val (.int c4)] [])) (fun t k => XS.icmpYes X0.here hx rfl (pc0 := 61) (pc' := 87) rfl (hb hby d2_61) rfl (own_feq (x := q) (y := (3 : Int32)) hk3).2 (by decide) (by decide) k) ?_
          refine own_st (fr' := (mkF m 88 #[.val (.int q), .val (.int c0), .val (.int c1), .val (.int c2), .val (.int c3), .val (.int c4)] [(.int q)])) (fun t k => XS.iloadN X0.here hx rfl (hb hby d2_87) rfl  k) ?_
          refine own_st (fr' := (mkF m 89 #[.val (.int q), .val (.int c0), .val (.int c1), .val (.int c2), .val (.int c3), .val (.int c4)] [(.int (4 : Int32)), (.int q)])) (fun t k => XS.iconst X0.here hx rfl (hb hby d2_88) k) ?_
          by_cases hk4 : q.toInt = 4
          · refine own_st (fr' := (mkF m 92 #[.val (.int q), .val (.int c0), .val (.int c1), .val (.int c2), .val (.int c3), .val (.int c4)] [])) (fun t k => XS.icmpNo X0.here hx rfl (hb hby d2_89) rfl (own_teq (x := q) (y := (4 : Int32)) hk4).2 k) ?_
            obtain ⟨T89, h89, X89, e89, E89, A89, D89, -, st89⟩ := newO X0 hx hZ hown (hw _ (List.mem_of_getElem? (i := 9) rfl)) (hw _ (List.mem_of_getElem? (i := 10) rfl)) (hw _ (List.mem_of_getElem? (i := 11) rfl)) e0 (g := (mkF m 92 #[.val (.int q), .val (.int c0), .val (.int c1), .val (.int c2), .val (.int c3), .val (.int c4)] [])) rfl (hb hby d2_92) (by decide) (by decide)
            obtain ⟨b89, g89⟩ : ∃ z, z = h0.size := ⟨_, rfl⟩
            rw [← g89] at A89 D89 st89
            have ge_b89 : n0 ≤ b89 := Nat.le_trans Z0 (Nat.le_of_eq g89.symm)
            have sz_b89 : h0.size ≤ b89 := Nat.le_trans (Nat.le_refl _) (Nat.le_of_eq g89.symm)
            have r90 := CHr.trans r0 (CHr.ext E89 r0.1)
            have F89_value : Fld Z h89 b89 "java/lang/String" "value" "[B" .null := D89 (Or.inr (hw _ (List.mem_of_getElem? (i := 24) rfl))) (ty := (.array .byte)) (by decide)
            have F89_coder : Fld Z h89 b89 "java/lang/String" "coder" "B" (.int (0 : Int32)) := D89 (Or.inr (hw _ (List.mem_of_getElem? (i := 25) rfl))) (ty := .byte) (by decide)
            refine own_st (fr' := (mkF m 95 #[.val (.int q), .val (.int c0), .val (.int c1), .val (.int c2), .val (.int c3), .val (.int c4)] [(.ref b89)])) st89 ?_
            refine own_st (fr' := (mkF m 96 #[.val (.int q), .val (.int c0), .val (.int c1), .val (.int c2), .val (.int c3), .val (.int c4)] [(.ref b89), (.ref b89)])) (fun t k => XS.dup X89.here hx rfl (hb hby d2_95) rfl rfl k) ?_
            refine own_st (fr' := (mkF m 97 #[.val (.int q), .val (.int c0), .val (.int c1), .val (.int c2), .val (.int c3), .val (.int c4)] [(.int (4 : Int32)), (.ref b89), (.ref b89)])) (fun t k => XS.iconst X89.here hx rfl (hb hby d2_96) k) ?_
            refine own_newarr X89 hx hZ (hw _ (List.mem_of_getElem? (i := 5) rfl)) e89 (hb hby d2_97) (by decide) (cap := 4) (by decide) (by decide) (by decide) (by decide) rfl ?_
            intro T91 h91 b91 g91 X91 e91 E91 V91
            have lt91_b89 : b89 < b91 := Nat.lt_of_lt_of_eq A89.lt g91.symm
            have ne91_b89 : b89 ≠ b91 := Nat.ne_of_lt lt91_b89
            have ge_b91 : n0 ≤ b91 := Nat.le_trans (Nat.le_trans Z0 E89.1) (Nat.le_of_eq g91.symm)
            have sz_b91 : h0.size ≤ b91 := Nat.le_trans (Nat.le_trans (Nat.le_refl _) E89.1) (Nat.le_of_eq g91.symm)
            have r92 := CHr.trans r90 (CHr.ext E91 r90.1)
            refine own_st (fr' := (mkF m 100 #[.val (.int q), .val (.int c0), .val (.int c1), .val (.int c2), .val (.int c3), .val (.int c4)] [(.ref b91), (.ref b91), (.ref b89), (.ref b89)])) (fun t k => XS.dup X91.here hx rfl (hb hby d2_99) rfl rfl k) ?_
            refine own_st (fr' := (mkF m 101 #[.val (.int q), .val (.int c0), .val (.int c1), .val (.int c2), .val (.int c3), .val (.int c4)] [(.int (0 : Int32)), (.ref b91), (.ref b91), (.ref b89), (.ref b89)])) (fun t k => XS.iconst X91.here hx rfl (hb hby d2_100) k) ?_
            refine own_st (fr' := (mkF m 102 #[.val (.int q), .val (.int c0), .val (.int c1), .val (.int c2), .val (.int c3), .val (.int c4)] [(.int c0), (.int (0 : Int32)), (.ref b91), (.ref b91), (.ref b89), (.ref b89)])) (fun t k => XS.iloadN X91.here hx rfl (hb hby d2_101) rfl  k) ?_
            refine own_castore X91 hx hZ e91 V91 (by decide) (by decide) (hb hby d2_102) ?_
            intro T93 h93 X93 e93 W93 V93
            have N93 := Fr.snoc X93 N0 ge_b91
            have r94 := CHr.trans r92 (CHr.wr W93 (own_safeA hZ V91 (by decide)) r92.1)
            refine own_st (fr' := (mkF m 104 #[.val (.int q), .val (.int c0), .val (.int c1), .val (.int c2), .val (.int c3), .val (.int c4)] [(.ref b91), (.ref b91), (.ref b89), (.ref b89)])) (fun t k => XS.dup X93.here hx rfl (hb hby d2_103) rfl rfl k) ?_
            refine own_st (fr' := (mkF m 105 #[.val (.int q), .val (.int c0), .val (.int c1), .val (.int c2), .val (.int c3), .val (.int c4)] [(.int (1 : Int32)), (.ref b91), (.ref b91), (.ref b89), (.ref b89)])) (fun t k => XS.iconst X93.here hx rfl (hb hby d2_104) k) ?_
            refine own_st (fr' := (mkF m 106 #[.val (.int q), .val (.int c0), .val (.int c1), .val (.int c2), .val (.int c3), .val (.int c4)] [(.int c1), (.int (1 : Int32)), (.ref b91), (.ref b91), (.ref b89), (.ref b89)])) (fun t k => XS.iloadN X93.here hx rfl (hb hby d2_105) rfl  k) ?_
            refine own_castore X93 hx hZ e93 V93 (by decide) (by decide) (hb hby d2_106) ?_
            intro T95 h95 X95 e95 W95 V95
            have N95 := Fr.snoc X95 N93 ge_b91
            have r96 := CHr.trans r94 (CHr.wr W95 (own_safeA hZ V93 (by decide)) r94.1)
            refine own_st (fr' := (mkF m 108 #[.val (.int q), .val (.int c0), .val (.int c1), .val (.int c2), .val (.int c3), .val (.int c4)] [(.ref b91), (.ref b91), (.ref b89), (.ref b89)])) (fun t k => XS.dup X95.here hx rfl (hb hby d2_107) rfl rfl k) ?_
            refine own_st (fr' := (mkF m 109 #[.val (.int q), .val (.int c0), .val (.int c1), .val (.int c2), .val (.int c3), .val (.int c4)] [(.int (2 : Int32)), (.ref b91), (.ref b91), (.ref b89), (.ref b89)])) (fun t k => XS.iconst X95.here hx rfl (hb hby d2_108) k) ?_
            refine own_st (fr' := (mkF m 110 #[.val (.int q), .val (.int c0), .val (.int c1), .val (.int c2), .val (.int c3), .val (.int c4)] [(.int c2), (.int (2 : Int32)), (.ref b91), (.ref b91), (.ref b89), (.ref b89)])) (fun t k => XS.iloadN X95.here hx rfl (hb hby d2_109) rfl  k) ?_
            refine own_castore X95 hx hZ e95 V95 (by decide) (by decide) (hb hby d2_110) ?_
            intro T97 h97 X97 e97 W97 V97
            have N97 := Fr.snoc X97 N95 ge_b91
            have r98 := CHr.trans r96 (CHr.wr W97 (own_safeA hZ V95 (by decide)) r96.1)
            refine own_st (fr' := (mkF m 112 #[.val (.int q), .val (.int c0), .val (.int c1), .val (.int c2), .val (.int c3), .val (.int c4)] [(.ref b91), (.ref b91), (.ref b89), (.ref b89)])) (fun t k => XS.dup X97.here hx rfl (hb hby d2_111) rfl rfl k) ?_
            refine own_st (fr' := (mkF m 113 #[.val (.int q), .val (.int c0), .val (.int c1), .val (.int c2), .val (.int c3), .val (.int c4)] [(.int (3 : Int32)), (.ref b91), (.ref b91), (.ref b89), (.ref b89)])) (fun t k => XS.iconst X97.here hx rfl (hb hby d2_112) k) ?_
            refine own_st (fr' := (mkF m 115 #[.val (.int q), .val (.int c0), .val (.int c1), .val (.int c2), .val (.int c3), .val (.int c4)] [(.int c3), (.int (3 : Int32)), (.ref b91), (.ref b91), (.ref b89), (.ref b89)])) (fun t k => XS.iload X97.here hx rfl (hb hby d2_113) rfl  k) ?_
            refine own_castore X97 hx hZ e97 V97 (by decide) (by decide) (hb hby d2_115) ?_
            intro T99 h99 X99 e99 W99 V99
            have N99 := Fr.snoc X99 N97 ge_b91
            have r100 := CHr.trans r98 (CHr.wr W99 (own_safeA hZ V97 (by decide)) r98.1)
            have hc : own_A Z h99 b91 .char 4 (fun i => Value.int ((own_cs c0 c1 c2 c3 c4) i)) := own_A.congr V99 (fun i hi => by
              have k1 : ((4 : Int32)).toInt = 4 := rfl
              rcases (by omega : i = 0 ∨ i = 1 ∨ i = 2 ∨ i = 3) with rfl | rfl | rfl | rfl
              · show Value.int (nar .char c0) = .int c0; rw [own_nch hr0]
              · show Value.int (nar .char c1) = .int c1; rw [own_nch hr1]
              · show Value.int (nar .char c2) = .int c2; rw [own_nch hr2]
              · show Value.int (nar .char c3) = .int c3; rw [own_nch hr3])
            refine own_callN X99 hx hZ (y := (⟨"java/lang/String", "<init>", "([C)V"⟩ : MethodName)) hown rfl (hw _ (List.mem_of_getElem? (i := 12) rfl)) (hw _ (List.mem_of_getElem? (i := 13) rfl)) (hw _ (List.mem_of_getElem? (i := 11) rfl)) (hw _ (List.mem_of_getElem? (i := 14) rfl)) (by decide) (a := b89) (argsL := [(.ref b91)]) (rest := [(.ref b89)]) (W := 1) (rm_scA l Z a0 hw [] b89 b91 4 (own_cs c0 c1 c2 c3 c4) cz fv h99 n0 (Nat.le_trans (Nat.le_trans (Nat.le_trans (Nat.le_trans (Nat.le_trans (Nat.le_trans Z0 E89.1) E91.1) (Nat.le_of_eq (Wr.size W93).symm)) (Nat.le_of_eq (Wr.size W95).symm)) (Nat.le_of_eq (Wr.size W97).symm)) (Nat.le_of_eq (Wr.size W99).symm)) (Exa.wr W99 (Exa.wr W97 (Exa.wr W95 (Exa.wr W93 (A89.ext E91))))) (Fld.other W99 (Fld.other W97 (Fld.other W95 (Fld.other W93 (F89_value.ext E91) (Or.inl ne91_b89)) (Or.inl ne91_b89)) (Or.inl ne91_b89)) (Or.inl ne91_b89)) (Fld.other W99 (Fld.other W97 (Fld.other W95 (Fld.other W93 (F89_coder.ext E91) (Or.inl ne91_b89)) (Or.inl ne91_b89)) (Or.inl ne91_b89)) (Or.inl ne91_b89)) hc (by decide) (own_csR hr0 hr1 hr2 hr3 hr4) ge_b89 (Sta.wr W99 (Sta.wr W97 (Sta.wr W95 (Sta.wr W93 (Sta.ext E91 (Sta.ext E89 S_cs)))))) (Sta.wr W99 (Sta.wr W97 (Sta.wr W95 (Sta.wr W93 (Sta.ext E91 (Sta.ext E89 S_fm)))))) (Sta.wr W99 (Sta.wr W97 (Sta.wr W95 (Sta.wr W93 (Sta.ext E91 (Sta.ext E89 S_as)))))) (Sta.wr W99 (Sta.wr W97 (Sta.wr W95 (Sta.wr W93 (Sta.ext E91 (Sta.ext E89 S_hi)))))) (Sta.wr W99 (Sta.wr W97 (Sta.wr W95 (Sta.wr W93 (Sta.ext E91 (Sta.ext E89 S_lo)))))) hcz hfv) e99 (by rw [hml]; rfl) (lenOf pd_8 rfl) rfl (Nat.le_of_eq rfl) (hb hby d2_116) (by decide) (by decide) (by decide) (by decide) ?_
            intro v101 T101 L101 X101 hQ101
            obtain ⟨⟨rr, nb, gg, cod, rfl, hr, VR, HB, G1, G2⟩, Nq101, K101⟩ := hQ101
            have N101 := Fr.app N99 Nq101
            have r102 := CHr.trans r100 (CHr.keep K101 (allS (own_safeN hZ (Exa.wr W99 (Exa.wr W97 (Exa.wr W95 (Exa.wr W93 (A89.ext E91))))) (Fld.other W99 (Fld.other W97 (Fld.other W95 (Fld.other W93 (F89_value.ext E91) (Or.inl ne91_b89)) (Or.inl ne91_b89)) (Or.inl ne91_b89)) (Or.inl ne91_b89))) all0) r100.1)
            exact own_retC X101 hx hlk hZ hS (Nat.le_trans (Nat.le_trans (Nat.le_trans (Nat.le_trans (Nat.le_trans (Nat.le_trans (Nat.le_trans (Nat.le_refl _) E89.1) E91.1) (Nat.le_of_eq (Wr.size W93).symm)) (Nat.le_of_eq (Wr.size W95).symm)) (Nat.le_of_eq (Wr.size W97).symm)) (Nat.le_of_eq (Wr.size W99).symm)) K101.1) (own_ew hw) r102 rfl hret rfl (Or.inr (Or.inr (Or.inr (Or.inr ⟨rfl, rfl, rfl⟩)))) (hb hby d2_119) (by decide) (by decide) (by rw [show q = (4 : Int32) from Int32.toInt_inj.mp (by exact hk4)]; exact ⟨⟨b89, rfl, rr, nb, gg, cod, ((Exa.wr W99 (Exa.wr W97 (Exa.wr W95 (Exa.wr W93 (A89.ext E91))))).keep K101), G1, G2, VR, HB⟩, N101, (Keep.trans (Keep.wr (Keep.wr (Keep.wr (Keep.wr (Keep.ext (Keep.ext (Keep.refl h0 []) E89) E91) W93 (Or.inr sz_b91)) W95 (Or.inr sz_b91)) W97 (Or.inr sz_b91)) W99 (Or.inr sz_b91)) K101 (allS (Or.inr sz_b89) all0))⟩)
          · refine own_st (fr' := (mkF m 120 #[.val (.int q), .val (.int c0), .val (.int c1), .val (.int c2), .val (.int c3), .val (.int c4)] [])) (fun t k => XS.icmpYes X0.here hx rfl (pc0 := 89) (pc' := 120) rfl (hb hby d2_89) rfl (own_feq (x := q) (y := (4 : Int32)) hk4).2 (by decide) (by decide) k) ?_
            obtain ⟨T103, h103, X103, e103, E103, A103, D103, -, st103⟩ := newO X0 hx hZ hown (hw _ (List.mem_of_getElem? (i := 9) rfl)) (hw _ (List.mem_of_getElem? (i := 10) rfl)) (hw _ (List.mem_of_getElem? (i := 11) rfl)) e0 (g := (mkF m 120 #[.val (.int q), .val (.int c0), .val (.int c1), .val (.int c2), .val (.int c3), .val (.int c4)] [])) rfl (hb hby d2_120) (by decide) (by decide)
            obtain ⟨b103, g103⟩ : ∃ z, z = h0.size := ⟨_, rfl⟩
            rw [← g103] at A103 D103 st103
            have ge_b103 : n0 ≤ b103 := Nat.le_trans Z0 (Nat.le_of_eq g103.symm)
            have sz_b103 : h0.size ≤ b103 := Nat.le_trans (Nat.le_refl _) (Nat.le_of_eq g103.symm)
            have r104 := CHr.trans r0 (CHr.ext E103 r0.1)
            have F103_value : Fld Z h103 b103 "java/lang/String" "value" "[B" .null := D103 (Or.inr (hw _ (List.mem_of_getElem? (i := 24) rfl))) (ty := (.array .byte)) (by decide)
            have F103_coder : Fld Z h103 b103 "java/lang/String" "coder" "B" (.int (0 : Int32)) := D103 (Or.inr (hw _ (List.mem_of_getElem? (i := 25) rfl))) (ty := .byte) (by decide)
            refine own_st (fr' := (mkF m 123 #[.val (.int q), .val (.int c0), .val (.int c1), .val (.int c2), .val (.int c3), .val (.int c4)] [(.ref b103)])) st103 ?_
            refine own_st (fr' := (mkF m 124 #[.val (.int q), .val (.int c0), .val (.int c1), .val (.int c2), .val (.int c3), .val (.int c4)] [(.ref b103), (.ref b103)])) (fun t k => XS.dup X103.here hx rfl (hb hby d2_123) rfl rfl k) ?_
            refine own_st (fr' := (mkF m 125 #[.val (.int q), .val (.int c0), .val (.int c1), .val (.int c2), .val (.int c3), .val (.int c4)] [(.int (5 : Int32)), (.ref b103), (.ref b103)])) (fun t k => XS.iconst X103.here hx rfl (hb hby d2_124) k) ?_
            refine own_newarr X103 hx hZ (hw _ (List.mem_of_getElem? (i := 5) rfl)) e103 (hb hby d2_125) (by decide) (cap := 5) (by decide) (by decide) (by decide) (by decide) rfl ?_
            intro T105 h105 b105 g105 X105 e105 E105 V105
            have lt105_b103 : b103 < b105 := Nat.lt_of_lt_of_eq A103.lt g105.symm
            have ne105_b103 : b103 ≠ b105 := Nat.ne_of_lt lt105_b103
            have ge_b105 : n0 ≤ b105 := Nat.le_trans (Nat.le_trans Z0 E103.1) (Nat.le_of_eq g105.symm)
            have sz_b105 : h0.size ≤ b105 := Nat.le_trans (Nat.le_trans (Nat.le_refl _) E103.1) (Nat.le_of_eq g105.symm)
            have r106 := CHr.trans r104 (CHr.ext E105 r104.1)
            refine own_st (fr' := (mkF m 128 #[.val (.int q), .val (.int c0), .val (.int c1), .val (.int c2), .val (.int c3), .val (.int c4)] [(.ref b105), (.ref b105), (.ref b103), (.ref b103)])) (fun t k => XS.dup X105.here hx rfl (hb hby d2_127) rfl rfl k) ?_
            refine own_st (fr' := (mkF m 129 #[.val (.int q), .val (.int c0), .val (.int c1), .val (.int c2), .val (.int c3), .val (.int c4)] [(.int (0 : Int32)), (.ref b105), (.ref b105), (.ref b103), (.ref b103)])) (fun t k => XS.iconst X105.here hx rfl (hb hby d2_128) k) ?_
            refine own_st (fr' := (mkF m 130 #[.val (.int q), .val (.int c0), .val (.int c1), .val (.int c2), .val (.int c3), .val (.int c4)] [(.int c0), (.int (0 : Int32)), (.ref b105), (.ref b105), (.ref b103), (.ref b103)])) (fun t k => XS.iloadN X105.here hx rfl (hb hby d2_129) rfl  k) ?_
            refine own_castore X105 hx hZ e105 V105 (by decide) (by decide) (hb hby d2_130) ?_
            intro T107 h107 X107 e107 W107 V107
            have N107 := Fr.snoc X107 N0 ge_b105
            have r108 := CHr.trans r106 (CHr.wr W107 (own_safeA hZ V105 (by decide)) r106.1)
            refine own_st (fr' := (mkF m 132 #[.val (.int q), .val (.int c0), .val (.int c1), .val (.int c2), .val (.int c3), .val (.int c4)] [(.ref b105), (.ref b105), (.ref b103), (.ref b103)])) (fun t k => XS.dup X107.here hx rfl (hb hby d2_131) rfl rfl k) ?_
            refine own_st (fr' := (mkF m 133 #[.val (.int q), .val (.int c0), .val (.int c1), .val (.int c2), .val (.int c3), .val (.int c4)] [(.int (1 : Int32)), (.ref b105), (.ref b105), (.ref b103), (.ref b103)])) (fun t k => XS.iconst X107.here hx rfl (hb hby d2_132) k) ?_
            refine own_st (fr' := (mkF m 134 #[.val (.int q), .val (.int c0), .val (.int c1), .val (.int c2), .val (.int c3), .val (.int c4)] [(.int c1), (.int (1 : Int32)), (.ref b105), (.ref b105), (.ref b103), (.ref b103)])) (fun t k => XS.iloadN X107.here hx rfl (hb hby d2_133) rfl  k) ?_
            refine own_castore X107 hx hZ e107 V107 (by decide) (by decide) (hb hby d2_134) ?_
            intro T109 h109 X109 e109 W109 V109
            have N109 := Fr.snoc X109 N107 ge_b105
            have r110 := CHr.trans r108 (CHr.wr W109 (own_safeA hZ V107 (by decide)) r108.1)
            refine own_st (fr' := (mkF m 136 #[.val (.int q), .val (.int c0), .val (.int c1), .val (.int c2), .val (.int c3), .val (.int c4)] [(.ref b105), (.ref b105), (.ref b103), (.ref b103)])) (fun t k => XS.dup X109.here hx rfl (hb hby d2_135) rfl rfl k) ?_
            refine own_st (fr' := (mkF m 137 #[.val (.int q), .val (.int c0), .val (.int c1), .val (.int c2), .val (.int c3), .val (.int c4)] [(.int (2 : Int32)), (.ref b105), (.ref b105), (.ref b103), (.ref b103)])) (fun t k => XS.iconst X109.here hx rfl (hb hby d2_136) k) ?_
            refine own_st (fr' := (mkF m 138 #[.val (.int q), .val (.int c0), .val (.int c1), .val (.int c2), .val (.int c3), .val (.int c4)] [(.int c2), (.int (2 : Int32)), (.ref b105), (.ref b105), (.ref b103), (.ref b103)])) (fun t k => XS.iloadN X109.here hx rfl (hb hby d2_137) rfl  k) ?_
            refine own_castore X109 hx hZ e109 V109 (by decide) (by decide) (hb hby d2_138) ?_
            intro T111 h111 X111 e111 W111 V111
            have N111 := Fr.snoc X111 N109 ge_b105
            have r112 := CHr.trans r110 (CHr.wr W111 (own_safeA hZ V109 (by decide)) r110.1)
            refine own_st (fr' := (mkF m 140 #[.val (.int q), .val (.int c0), .val (.int c1), .val (.int c2), .val (.int c3), .val (.int c4)] [(.ref b105), (.ref b105), (.ref b103), (.ref b103)])) (fun t k => XS.dup X111.here hx rfl (hb hby d2_139) rfl rfl k) ?_
            refine own_st (fr' := (mkF m 141 #[.val (.int q), .val (.int c0), .val (.int c1), .val (.int c2), .val (.int c3), .val (.int c4)] [(.int (3 : Int32)), (.ref b105), (.ref b105), (.ref b103), (.ref b103)])) (fun t k => XS.iconst X111.here hx rfl (hb hby d2_140) k) ?_
            refine own_st (fr' := (mkF m 143 #[.val (.int q), .val (.int c0), .val (.int c1), .val (.int c2), .val (.int c3), .val (.int c4)] [(.int c3), (.int (3 : Int32)), (.ref b105), (.ref b105), (.ref b103), (.ref b103)])) (fun t k => XS.iload X111.here hx rfl (hb hby d2_141) rfl  k) ?_
            refine own_castore X111 hx hZ e111 V111 (by decide) (by decide) (hb hby d2_143) ?_
            intro T113 h113 X113 e113 W113 V113
            have N113 := Fr.snoc X113 N111 ge_b105
            have r114 := CHr.trans r112 (CHr.wr W113 (own_safeA hZ V111 (by decide)) r112.1)
            refine own_st (fr' := (mkF m 145 #[.val (.int q), .val (.int c0), .val (.int c1), .val (.int c2), .val (.int c3), .val (.int c4)] [(.ref b105), (.ref b105), (.ref b103), (.ref b103)])) (fun t k => XS.dup X113.here hx rfl (hb hby d2_144) rfl rfl k) ?_
            refine own_st (fr' := (mkF m 146 #[.val (.int q), .val (.int c0), .val (.int c1), .val (.int c2), .val (.int c3), .val (.int c4)] [(.int (4 : Int32)), (.ref b105), (.ref b105), (.ref b103), (.ref b103)])) (fun t k => XS.iconst X113.here hx rfl (hb hby d2_145) k) ?_
            refine own_st (fr' := (mkF m 148 #[.val (.int q), .val (.int c0), .val (.int c1), .val (.int c2), .val (.int c3), .val (.int c4)] [(.int c4), (.int (4 : Int32)), (.ref b105), (.ref b105), (.ref b103), (.ref b103)])) (fun t k => XS.iload X113.here hx rfl (hb hby d2_146) rfl  k) ?_
            refine own_castore X113 hx hZ e113 V113 (by decide) (by decide) (hb hby d2_148) ?_
            intro T115 h115 X115 e115 W115 V115
            have N115 := Fr.snoc X115 N113 ge_b105
            have r116 := CHr.trans r114 (CHr.wr W115 (own_safeA hZ V113 (by decide)) r114.1)
            have hc : own_A Z h115 b105 .char 5 (fun i => Value.int ((own_cs c0 c1 c2 c3 c4) i)) := own_A.congr V115 (fun i hi => by
              have k1 : ((5 : Int32)).toInt = 5 := rfl
              rcases (by omega : i = 0 ∨ i = 1 ∨ i = 2 ∨ i = 3 ∨ i = 4) with rfl | rfl | rfl | rfl | rfl
              · show Value.int (nar .char c0) = .int c0; rw [own_nch hr0]
              · show Value.int (nar .char c1) = .int c1; rw [own_nch hr1]
              · show Value.int (nar .char c2) = .int c2; rw [own_nch hr2]
              · show Value.int (nar .char c3) = .int c3; rw [own_nch hr3]
              · show Value.int (nar .char c4) = .int c4; rw [own_nch hr4])
            refine own_callN X115 hx hZ (y := (⟨"java/lang/String", "<init>", "([C)V"⟩ : MethodName)) hown rfl (hw _ (List.mem_of_getElem? (i := 12) rfl)) (hw _ (List.mem_of_getElem? (i := 13) rfl)) (hw _ (List.mem_of_getElem? (i := 11) rfl)) (hw _ (List.mem_of_getElem? (i := 14) rfl)) (by decide) (a := b103) (argsL := [(.ref b105)]) (rest := [(.ref b103)]) (W := 1) (rm_scA l Z a0 hw [] b103 b105 5 (own_cs c0 c1 c2 c3 c4) cz fv h115 n0 (Nat.le_trans (Nat.le_trans (Nat.le_trans (Nat.le_trans (Nat.le_trans (Nat.le_trans (Nat.le_trans Z0 E103.1) E105.1) (Nat.le_of_eq (Wr.size W107).symm)) (Nat.le_of_eq (Wr.size W109).symm)) (Nat.le_of_eq (Wr.size W111).symm)) (Nat.le_of_eq (Wr.size W113).symm)) (Nat.le_of_eq (Wr.size W115).symm)) (Exa.wr W115 (Exa.wr W113 (Exa.wr W111 (Exa.wr W109 (Exa.wr W107 (A103.ext E105)))))) (Fld.other W115 (Fld.other W113 (Fld.other W111 (Fld.other W109 (Fld.other W107 (F103_value.ext E105) (Or.inl ne105_b103)) (Or.inl ne105_b103)) (Or.inl ne105_b103)) (Or.inl ne105_b103)) (Or.inl ne105_b103)) (Fld.other W115 (Fld.other W113 (Fld.other W111 (Fld.other W109 (Fld.other W107 (F103_coder.ext E105) (Or.inl ne105_b103)) (Or.inl ne105_b103)) (Or.inl ne105_b103)) (Or.inl ne105_b103)) (Or.inl ne105_b103)) hc (by decide) (own_csR hr0 hr1 hr2 hr3 hr4) ge_b103 (Sta.wr W115 (Sta.wr W113 (Sta.wr W111 (Sta.wr W109 (Sta.wr W107 (Sta.ext E105 (Sta.ext E103 S_cs))))))) (Sta.wr W115 (Sta.wr W113 (Sta.wr W111 (Sta.wr W109 (Sta.wr W107 (Sta.ext E105 (Sta.ext E103 S_fm))))))) (Sta.wr W115 (Sta.wr W113 (Sta.wr W111 (Sta.wr W109 (Sta.wr W107 (Sta.ext E105 (Sta.ext E103 S_as))))))) (Sta.wr W115 (Sta.wr W113 (Sta.wr W111 (Sta.wr W109 (Sta.wr W107 (Sta.ext E105 (Sta.ext E103 S_hi))))))) (Sta.wr W115 (Sta.wr W113 (Sta.wr W111 (Sta.wr W109 (Sta.wr W107 (Sta.ext E105 (Sta.ext E103 S_lo))))))) hcz hfv) e115 (by rw [hml]; rfl) (lenOf pd_8 rfl) rfl (Nat.le_of_eq rfl) (hb hby d2_149) (by decide) (by decide) (by decide) (by decide) ?_
            intro v117 T117 L117 X117 hQ117
            obtain ⟨⟨rr, nb, gg, cod, rfl, hr, VR, HB, G1, G2⟩, Nq117, K117⟩ := hQ117
            have N117 := Fr.app N115 Nq117
            have r118 := CHr.trans r116 (CHr.keep K117 (allS (own_safeN hZ (Exa.wr W115 (Exa.wr W113 (Exa.wr W111 (Exa.wr W109 (Exa.wr W107 (A103.ext E105)))))) (Fld.other W115 (Fld.other W113 (Fld.other W111 (Fld.other W109 (Fld.other W107 (F103_value.ext E105) (Or.inl ne105_b103)) (Or.inl ne105_b103)) (Or.inl ne105_b103)) (Or.inl ne105_b103)) (Or.inl ne105_b103))) all0) r116.1)
            exact own_retC X117 hx hlk hZ hS (Nat.le_trans (Nat.le_trans (Nat.le_trans (Nat.le_trans (Nat.le_trans (Nat.le_trans (Nat.le_trans (Nat.le_trans (Nat.le_refl _) E103.1) E105.1) (Nat.le_of_eq (Wr.size W107).symm)) (Nat.le_of_eq (Wr.size W109).symm)) (Nat.le_of_eq (Wr.size W111).symm)) (Nat.le_of_eq (Wr.size W113).symm)) (Nat.le_of_eq (Wr.size W115).symm)) K117.1) (own_ew hw) r118 rfl hret rfl (Or.inr (Or.inr (Or.inr (Or.inr ⟨rfl, rfl, rfl⟩)))) (hb hby d2_152) (by decide) (by decide) (by rw [show q = (5 : Int32) from Int32.toInt_inj.mp (by have k5 : (5 : Int32).toInt = 5 := rfl; omega)]; exact ⟨⟨b103, rfl, rr, nb, gg, cod, ((Exa.wr W115 (Exa.wr W113 (Exa.wr W111 (Exa.wr W109 (Exa.wr W107 (A103.ext E105)))))).keep K117), G1, G2, VR, HB⟩, N117, (Keep.trans (Keep.wr (Keep.wr (Keep.wr (Keep.wr (Keep.wr (Keep.ext (Keep.ext (Keep.refl h0 []) E103) E105) W107 (Or.inr sz_b105)) W109 (Or.inr sz_b105)) W111 (Or.inr sz_b105)) W113 (Or.inr sz_b105)) W115 (Or.inr sz_b105)) K117 (allS (Or.inr sz_b103) all0))⟩)
theorem own_By.len {g : Nat → Value} {nb n : Int32} {cs : Nat → Int32} {cod : Int32} (F : own_By g nb n cs cod) : nb >>> (cod &&& 31) = n := by
  rcases F with ⟨rfl, h, -⟩ | ⟨rfl, h, -⟩
  · have q := c_ishr nb 0 0 (by decide)
    apply Int32.toInt_inj.mp; omega
  · have q := c_ishr nb 1 1 (by decide)
    apply Int32.toInt_inj.mp; omega
theorem d8_0 : decode jdk_42_method_152_code 0 = .ok (.getstatic 38, 3) := by decide +kernel
theorem d8_3 : decode jdk_42_method_152_code 3 = .ok (.ifCond .eq 10, 3) := by decide +kernel
theorem d8_6 : decode jdk_42_method_152_code 6 = .ok (.aload_n 0, 1) := by decide +kernel
theorem d8_7 : decode jdk_42_method_152_code 7 = .ok (.getfield 15, 3) := by decide +kernel
theorem d8_10 : decode jdk_42_method_152_code 10 = .ok (.goto 4, 3) := by decide +kernel
theorem d8_14 : decode jdk_42_method_152_code 14 = .ok (.ireturn, 1) := by decide +kernel
theorem ef_coder (m : MethodId)  : entryFrame m #[(.ref x')] 1 = mkF m 0 #[.val (.ref x')] [] := by first | (simp [entryFrame, mkF, argsToLocals, Value.category, maxLocals]; done) | rfl
def Q_coder (Z : State) (x' : Addr) (cod : Int32) (cz : Int32) (fv : Value) (h0 : Heap) (n0 : Nat) : Option Value → Heap → List Loc → Prop := fun v h L => v = some (.int cod) ∧ Fr n0 L ∧ h = h0
set_option maxRecDepth 65536 in
set_option maxHeartbeats 40000000 in
theorem rm_coder (l : Launch) (Z : State) (a0 : Array Value) (hw : ∀ d ∈ tables_1, d.before a0 Z = true) (ws : List Jvm.Cond) (x' : Addr) (cod : Int32) (cz : Int32) (fv : Value) (h0 : Heap) (n0 : Nat) (Z0 : n0 ≤ h0.size) (Fc : Fld Z h0 x' "java/lang/String" "coder" "B" (.int cod)) (hc01 : cod = 0 ∨ cod = 1) (S_cs : Sta Z h0 "java/lang/String" "COMPACT_STRINGS" "Z" (.int cz)) (S_fm : Sta Z h0 "jdk/internal/util/Preconditions" "SIOOBE_FORMATTER" "Ljava/util/function/BiFunction;" fv) (S_as : Sta Z h0 "java/lang/StringUTF16" "$assertionsDisabled" "Z" (.int (1 : Int32))) (S_hi : Sta Z h0 "java/lang/StringUTF16" "HI_BYTE_SHIFT" "I" (.int (0 : Int32))) (S_lo : Sta Z h0 "java/lang/StringUTF16" "LO_BYTE_SHIFT" "I" (.int (8 : Int32))) (hcz : ¬ cz.toInt = 0) (hfv : fv.isRef = true) :
    MetFree l (⟨"java/lang/String", "coder", "()B"⟩ : MethodName) (head1 (Jvm.Cond.code (⟨"java/lang/String", "coder", "()B"⟩ : MethodName) jdk_42_method_152_code 1 (some .byte) :: ws) ({ frames := 0, cells := 0, slots := 0, locals := 0 } : Room)) (fun aX U => aX = #[(.ref x')] ∧ Z.Warmed39 U.vm ∧ U.heap = h0) (fun _ _ _ _ _ => True) (fun _ U o U' => ∃ v L, o = .returned v ∧ (Q_coder Z x' cod cz fv h0 n0) v U'.heap L ∧ FrameEnd U o U' L ({ frames := 0, cells := 0, slots := 0, locals := 0 } : Room).cells ({ frames := 0, cells := 0, slots := 0, locals := 0 } : Room).slots) := by
  refine own_met (Q := (Q_coder Z x' cod cz fv h0 n0)) (plainFor_of_name (x := (⟨"java/lang/String", "coder", "()B"⟩ : MethodName)) pn_2) (fun m => ef_coder m ) ?_
  intro p e s m below meth cD s₁ hx hby hml hret hlk hZ hown hnm X0 e0 hs0
  have hown : s.vm.findClass "java/lang/String" = some m.cls := hown
  have N0 := Fr.nil n0
  obtain ⟨T119, X119, e119, st119⟩ := getS2 X0 hx hZ hown (host := "") (Or.inl (hw _ (List.mem_of_getElem? (i := 44) rfl))) Via.refl e0 S_cs (g := (mkF m 0 #[.val (.ref x')] [])) rfl (hb hby d8_0)
  refine own_st (fr' := (mkF m 3 #[.val (.ref x')] [(.int cz)])) st119 ?_
  refine own_st (fr' := (mkF m 6 #[.val (.ref x')] [])) (fun t k => XS.ifNo X119.here hx rfl (hb hby d8_3) rfl ((if0 _ _).trans (own_feq (x := cz) (y := (0 : Int32)) (show ¬ cz.toInt = 0 from hcz)).1) k) ?_
  refine own_st (fr' := (mkF m 7 #[.val (.ref x')] [(.ref x')])) (fun t k => XS.aloadN X119.here hx rfl (hb hby d8_6) rfl rfl k) ?_
  obtain ⟨T120, X120, e120, st120⟩ := getF X119 hx hZ hown (host := "") (Or.inl (hw _ (List.mem_of_getElem? (i := 29) rfl))) Via.refl e119 Fc (g := (mkF m 7 #[.val (.ref x')] [(.ref x')])) rfl rfl (hb hby d8_7)
  refine own_st (fr' := (mkF m 10 #[.val (.ref x')] [(.int cod)])) st120 ?_
  refine own_st (fr' := (mkF m 14 #[.val (.ref x')] [(.int cod)])) (fun t k => XS.goto X120.here hx rfl (pc0 := 10) (pc' := 14) rfl (hb hby d8_10) (by decide) (by decide) k) ?_
  exact own_ret X120 hx hlk hret (by rcases hc01 with rfl | rfl <;> rfl) (Or.inl ⟨rfl, by simp, _, rfl⟩) (hb hby d8_14) (by decide) (by decide) (⟨rfl, N0, e120⟩)
theorem pd_9 : parseMethodDescriptor "()B" = some ⟨[], some .byte⟩ := by decide +kernel
theorem d7_0 : decode jdk_42_method_54_code 0 = .ok (.aload_n 0, 1) := by decide +kernel
theorem d7_1 : decode jdk_42_method_54_code 1 = .ok (.getfield 9, 3) := by decide +kernel
theorem d7_4 : decode jdk_42_method_54_code 4 = .ok (.arraylength, 1) := by decide +kernel
theorem d7_5 : decode jdk_42_method_54_code 5 = .ok (.aload_n 0, 1) := by decide +kernel
theorem d7_6 : decode jdk_42_method_54_code 6 = .ok (.invokevirtual 335, 3) := by decide +kernel
theorem d7_9 : decode jdk_42_method_54_code 9 = .ok (.ishr, 1) := by decide +kernel
theorem d7_10 : decode jdk_42_method_54_code 10 = .ok (.ireturn, 1) := by decide +kernel
theorem ef_slen (m : MethodId)  : entryFrame m #[(.ref x')] 1 = mkF m 0 #[.val (.ref x')] [] := by first | (simp [entryFrame, mkF, argsToLocals, Value.category, maxLocals]; done) | rfl
def Q_slen (Z : State) (x' : Addr) (q : Int32) (cs : Nat → Int32) (cz : Int32) (fv : Value) (h0 : Heap) (n0 : Nat) : Option Value → Heap → List Loc → Prop := fun v h L => v = some (.int q) ∧ Fr n0 L ∧ h = h0
set_option maxRecDepth 65536 in
set_option maxHeartbeats 40000000 in
theorem rm_slen (l : Launch) (Z : State) (a0 : Array Value) (hw : ∀ d ∈ tables_1, d.before a0 Z = true) (ws : List Jvm.Cond) (x' : Addr) (q : Int32) (cs : Nat → Int32) (cz : Int32) (fv : Value) (h0 : Heap) (n0 : Nat) (Z0 : n0 ≤ h0.size) (P : own_Str Z h0 x' q cs) (S_cs : Sta Z h0 "java/lang/String" "COMPACT_STRINGS" "Z" (.int cz)) (S_fm : Sta Z h0 "jdk/internal/util/Preconditions" "SIOOBE_FORMATTER" "Ljava/util/function/BiFunction;" fv) (S_as : Sta Z h0 "java/lang/StringUTF16" "$assertionsDisabled" "Z" (.int (1 : Int32))) (S_hi : Sta Z h0 "java/lang/StringUTF16" "HI_BYTE_SHIFT" "I" (.int (0 : Int32))) (S_lo : Sta Z h0 "java/lang/StringUTF16" "LO_BYTE_SHIFT" "I" (.int (8 : Int32))) (hcz : ¬ cz.toInt = 0) (hfv : fv.isRef = true) :
    MetFree l (⟨"java/lang/String", "length", "()I"⟩ : MethodName) (head1 (Jvm.Cond.code (⟨"java/lang/String", "length", "()I"⟩ : MethodName) jdk_42_method_54_code 1 (some .int) :: ws) ({ frames := 1, cells := 0, slots := 0, locals := 13 } : Room)) (fun aX U => aX = #[(.ref x')] ∧ Z.Warmed39 U.vm ∧ U.heap = h0) (fun _ _ _ _ _ => True) (fun _ U o U' => ∃ v L, o = .returned v ∧ (Q_slen Z x' q cs cz fv h0 n0) v U'.heap L ∧ FrameEnd U o U' L ({ frames := 1, cells := 0, slots := 0, locals := 13 } : Room).cells ({ frames := 1, cells := 0, slots := 0, locals := 13 } : Room).slots) := by
  refine own_met (Q := (Q_slen Z x' q cs cz fv h0 n0)) (plainFor_of_name (x := (⟨"java/lang/String", "length", "()I"⟩ : MethodName)) pn_2) (fun m => ef_slen m ) ?_
  intro p e s m below meth cD s₁ hx hby hml hret hlk hZ hown hnm X0 e0 hs0
  have hown : s.vm.findClass "java/lang/String" = some m.cls := hown
  have N0 := Fr.nil n0
  obtain ⟨r, nb, g, cod, E0, F1, F2, VR, HB⟩ := P
  refine own_st (fr' := (mkF m 1 #[.val (.ref x')] [(.ref x')])) (fun t k => XS.aloadN X0.here hx rfl (hb hby d7_0) rfl rfl k) ?_
  obtain ⟨T121, X121, e121, st121⟩ := getF X0 hx hZ hown (host := "") (Or.inl (hw _ (List.mem_of_getElem? (i := 28) rfl))) Via.refl e0 F1 (g := (mkF m 1 #[.val (.ref x')] [(.ref x')])) rfl rfl (hb hby d7_1)
  refine own_st (fr' := (mkF m 4 #[.val (.ref x')] [(.ref r)])) st121 ?_
  refine own_alen X121 hx hZ e121 VR (hb hby d7_4) ?_
  refine own_st (fr' := (mkF m 6 #[.val (.ref x')] [(.ref x'), (.int nb)])) (fun t k => XS.aloadN X121.here hx rfl (hb hby d7_5) rfl rfl k) ?_
  refine own_callV X121 hx hZ (y := (⟨"java/lang/String", "coder", "()B"⟩ : MethodName)) (z := (⟨"java/lang/String", "coder", "()B"⟩ : MethodName)) hown (hw _ (List.mem_of_getElem? (i := 39) rfl)) (hw _ (List.mem_of_getElem? (i := 40) rfl)) (notFace_of_selects (args := #[]) (mvT hZ (hw _ (List.mem_of_getElem? (i := 42) rfl)))) (hw _ (List.mem_of_getElem? (i := 42) rfl)) (hw _ (List.mem_of_getElem? (i := 41) rfl)) (hw _ (List.mem_of_getElem? (i := 11) rfl)) (hw _ (List.mem_of_getElem? (i := 43) rfl)) (by decide) (a := x') (argsL := []) (rest := [(.int nb)]) (W := 1) (rm_coder l Z a0 hw [] x' cod cz fv h0 n0 Z0 F2 HB.b S_cs S_fm S_as S_hi S_lo hcz hfv) e121 E0 (by rw [hml]; rfl) (lenOf pd_9 rfl) rfl (Nat.le_of_eq rfl) (hb hby d7_6) (by decide) (by decide) (by decide) (by decide) ?_
  intro v122 T122 L122 X122 hQ122
  obtain ⟨rfl, Nq122, eq122⟩ := hQ122
  have N122 := Fr.app N0 Nq122
  refine own_st (fr' := (mkF m 10 #[.val (.ref x')] [(.int (nb >>> (cod &&& 31)))])) (fun t k => XS.ishr X122.here hx rfl (hb hby d7_9) rfl k) ?_
  rw [HB.len]
  exact own_retI X122 hx hlk hret (hb hby d7_10) (by decide) (by decide) (⟨rfl, N122, eq122⟩)
theorem d21_0 : decode jdk_42_method_154_code 0 = .ok (.getstatic 38, 3) := by decide +kernel
theorem d21_3 : decode jdk_42_method_154_code 3 = .ok (.ifCond .eq 14, 3) := by decide +kernel
theorem d21_6 : decode jdk_42_method_154_code 6 = .ok (.aload_n 0, 1) := by decide +kernel
theorem d21_7 : decode jdk_42_method_154_code 7 = .ok (.getfield 15, 3) := by decide +kernel
theorem d21_10 : decode jdk_42_method_154_code 10 = .ok (.ifCond .ne 7, 3) := by decide +kernel
theorem d21_13 : decode jdk_42_method_154_code 13 = .ok (.iconst 1, 1) := by decide +kernel
theorem d21_14 : decode jdk_42_method_154_code 14 = .ok (.goto 4, 3) := by decide +kernel
theorem d21_17 : decode jdk_42_method_154_code 17 = .ok (.iconst 0, 1) := by decide +kernel
theorem d21_18 : decode jdk_42_method_154_code 18 = .ok (.ireturn, 1) := by decide +kernel
theorem ef_isl (m : MethodId)  : entryFrame m #[(.ref x')] 1 = mkF m 0 #[.val (.ref x')] [] := by first | (simp [entryFrame, mkF, argsToLocals, Value.category, maxLocals]; done) | rfl
def Q_isl (Z : State) (x' : Addr) (cod : Int32) (cz : Int32) (fv : Value) (h0 : Heap) (n0 : Nat) : Option Value → Heap → List Loc → Prop := fun v h L => (∃ z : Int32, v = some (.int z) ∧ ((cod = 0 ∧ z.toInt = 1) ∨ (cod = 1 ∧ z.toInt = 0))) ∧ Fr n0 L ∧ h = h0
set_option maxRecDepth 65536 in
set_option maxHeartbeats 40000000 in
theorem rm_isl (l : Launch) (Z : State) (a0 : Array Value) (hw : ∀ d ∈ tables_1, d.before a0 Z = true) (ws : List Jvm.Cond) (x' : Addr) (cod : Int32) (cz : Int32) (fv : Value) (h0 : Heap) (n0 : Nat) (Z0 : n0 ≤ h0.size) (Fc : Fld Z h0 x' "java/lang/String" "coder" "B" (.int cod)) (hc01 : cod = 0 ∨ cod = 1) (S_cs : Sta Z h0 "java/lang/String" "COMPACT_STRINGS" "Z" (.int cz)) (S_fm : Sta Z h0 "jdk/internal/util/Preconditions" "SIOOBE_FORMATTER" "Ljava/util/function/BiFunction;" fv) (S_as : Sta Z h0 "java/lang/StringUTF16" "$assertionsDisabled" "Z" (.int (1 : Int32))) (S_hi : Sta Z h0 "java/lang/StringUTF16" "HI_BYTE_SHIFT" "I" (.int (0 : Int32))) (S_lo : Sta Z h0 "java/lang/StringUTF16" "LO_BYTE_SHIFT" "I" (.int (8 : Int32))) (hcz : ¬ cz.toInt = 0) (hfv : fv.isRef = true) :
    MetFree l (⟨"java/lang/String", "isLatin1", "()Z"⟩ : MethodName) (head1 (Jvm.Cond.code (⟨"java/lang/String", "isLatin1", "()Z"⟩ : MethodName) jdk_42_method_154_code 1 (some .boolean) :: ws) ({ frames := 0, cells := 0, slots := 0, locals := 0 } : Room)) (fun aX U => aX = #[(.ref x')] ∧ Z.Warmed39 U.vm ∧ U.heap = h0) (fun _ _ _ _ _ => True) (fun _ U o U' => ∃ v L, o = .returned v ∧ (Q_isl Z x' cod cz fv h0 n0) v U'.heap L ∧ FrameEnd U o U' L ({ frames := 0, cells := 0, slots := 0, locals := 0 } : Room).cells ({ frames := 0, cells := 0, slots := 0, locals := 0 } : Room).slots) := by
  refine own_met (Q := (Q_isl Z x' cod cz fv h0 n0)) (plainFor_of_name (x := (⟨"java/lang/String", "isLatin1", "()Z"⟩ : MethodName)) pn_2) (fun m => ef_isl m ) ?_
  intro p e s m below meth cD s₁ hx hby hml hret hlk hZ hown hnm X0 e0 hs0
  have hown : s.vm.findClass "java/lang/String" = some m.cls := hown
  have N0 := Fr.nil n0
  obtain ⟨T123, X123, e123, st123⟩ := getS2 X0 hx hZ hown (host := "") (Or.inl (hw _ (List.mem_of_getElem? (i := 44) rfl))) Via.refl e0 S_cs (g := (mkF m 0 #[.val (.ref x')] [])) rfl (hb hby d21_0)
  refine own_st (fr' := (mkF m 3 #[.val (.ref x')] [(.int cz)])) st123 ?_
  refine own_st (fr' := (mkF m 6 #[.val (.ref x')] [])) (fun t k => XS.ifNo X123.here hx rfl (hb hby d21_3) rfl ((if0 _ _).trans (own_feq (x := cz) (y := (0 : Int32)) (show ¬ cz.toInt = 0 from hcz)).1) k) ?_
  refine own_st (fr' := (mkF m 7 #[.val (.ref x')] [(.ref x')])) (fun t k => XS.aloadN X123.here hx rfl (hb hby d21_6) rfl rfl k) ?_
  obtain ⟨T124, X124, e124, st124⟩ := getF X123 hx hZ hown (host := "") (Or.inl (hw _ (List.mem_of_getElem? (i := 29) rfl))) Via.refl e123 Fc (g := (mkF m 7 #[.val (.ref x')] [(.ref x')])) rfl rfl (hb hby d21_7)
  refine own_st (fr' := (mkF m 10 #[.val (.ref x')] [(.int cod)])) st124 ?_
  have hcd : (cod = 0 ∧ cod.toInt = 0) ∨ (cod = 1 ∧ ¬ cod.toInt = 0) := by rcases hc01 with rfl | rfl <;> decide
  by_cases hz : cod.toInt = 0
  · refine own_st (fr' := (mkF m 13 #[.val (.ref x')] [])) (fun t k => XS.ifNo X124.here hx rfl (hb hby d21_10) rfl ((if0 _ _).trans (own_teq (x := cod) (y := (0 : Int32)) hz).2) k) ?_
    refine own_st (fr' := (mkF m 14 #[.val (.ref x')] [(.int (1 : Int32))])) (fun t k => XS.iconst X124.here hx rfl (hb hby d21_13) k) ?_
    refine own_st (fr' := (mkF m 18 #[.val (.ref x')] [(.int (1 : Int32))])) (fun t k => XS.goto X124.here hx rfl (pc0 := 14) (pc' := 18) rfl (hb hby d21_14) (by decide) (by decide) k) ?_
    exact own_retZ X124 hx hlk hret (Or.inr rfl) (hb hby d21_18) (by decide) (by decide) (⟨⟨_, rfl, Or.inl ⟨by rcases hcd with hh | hh; exact hh.1; exact absurd hz hh.2, rfl⟩⟩, N0, e124⟩)
  · refine own_st (fr' := (mkF m 17 #[.val (.ref x')] [])) (fun t k => XS.ifYes X124.here hx rfl (pc0 := 10) (pc' := 17) rfl (hb hby d21_10) rfl ((if0 _ _).trans (own_feq (x := cod) (y := (0 : Int32)) hz).2) (by decide) (by decide) k) ?_
    refine own_st (fr' := (mkF m 18 #[.val (.ref x')] [(.int (0 : Int32))])) (fun t k => XS.iconst X124.here hx rfl (hb hby d21_17) k) ?_
    exact own_retZ X124 hx hlk hret (Or.inl rfl) (hb hby d21_18) (by decide) (by decide) (⟨⟨_, rfl, Or.inr ⟨by rcases hcd with hh | hh; exact absurd hh.2 hz; exact hh.1, rfl⟩⟩, N0, e124⟩)
theorem d26_0 : decode jdk_41_method_11_code 0 = .ok (.iload_n 0, 1) := by decide +kernel
theorem d26_1 : decode jdk_41_method_11_code 1 = .ok (.ifCond .lt 8, 3) := by decide +kernel
theorem d26_4 : decode jdk_41_method_11_code 4 = .ok (.iload_n 0, 1) := by decide +kernel
theorem d26_5 : decode jdk_41_method_11_code 5 = .ok (.iload_n 1, 1) := by decide +kernel
theorem d26_6 : decode jdk_41_method_11_code 6 = .ok (.if_icmp .lt 10, 3) := by decide +kernel
theorem d26_16 : decode jdk_41_method_11_code 16 = .ok (.iload_n 0, 1) := by decide +kernel
theorem d26_17 : decode jdk_41_method_11_code 17 = .ok (.ireturn, 1) := by decide +kernel
theorem pn_3 : plainName "jdk/internal/util/Preconditions" = true := by first | (simp [plainName, overriddenIn]; done) | decide +kernel
theorem ef_pci (m : MethodId) (ii : Int32) (nn : Int32) (fv : Value) (hfv : fv.isRef = true) : entryFrame m #[(.int ii), (.int nn), fv] 3 = mkF m 0 #[.val (.int ii), .val (.int nn), .val fv] [] := by cases fv <;> first | rfl | (simp [Value.isRef] at hfv; done)
def Q_pci (Z : State) (ii : Int32) (nn : Int32) (fv : Value) (h0 : Heap) (n0 : Nat) : Option Value → Heap → List Loc → Prop := fun v h L => v = some (.int ii) ∧ Fr n0 L ∧ h = h0
set_option maxRecDepth 65536 in
set_option maxHeartbeats 40000000 in
theorem rm_pci (l : Launch) (Z : State) (a0 : Array Value) (hw : ∀ d ∈ tables_1, d.before a0 Z = true) (ws : List Jvm.Cond) (ii : Int32) (nn : Int32) (fv : Value) (h0 : Heap) (n0 : Nat) (Z0 : n0 ≤ h0.size) (hi : 0 ≤ ii.toInt ∧ ii.toInt < nn.toInt) (hfv : fv.isRef = true) :
    MetFree l (⟨"jdk/internal/util/Preconditions", "checkIndex", "(IILjava/util/function/BiFunction;)I"⟩ : MethodName) (head1 (Jvm.Cond.code (⟨"jdk/internal/util/Preconditions", "checkIndex", "(IILjava/util/function/BiFunction;)I"⟩ : MethodName) jdk_41_method_11_code 3 (some .int) :: ws) ({ frames := 0, cells := 0, slots := 0, locals := 0 } : Room)) (fun aX U => aX = #[(.int ii), (.int nn), fv] ∧ Z.Warmed39 U.vm ∧ U.heap = h0) (fun _ _ _ _ _ => True) (fun _ U o U' => ∃ v L, o = .returned v ∧ (Q_pci Z ii nn fv h0 n0) v U'.heap L ∧ FrameEnd U o U' L ({ frames := 0, cells := 0, slots := 0, locals := 0 } : Room).cells ({ frames := 0, cells := 0, slots := 0, locals := 0 } : Room).slots) := by
  refine own_met (Q := (Q_pci Z ii nn fv h0 n0)) (plainFor_of_name (x := (⟨"jdk/internal/util/Preconditions", "checkIndex", "(IILjava/util/function/BiFunction;)I"⟩ : MethodName)) pn_3) (fun m => ef_pci m ii nn fv hfv) ?_
  intro p e s m below meth cD s₁ hx hby hml hret hlk hZ hown hnm X0 e0 hs0
  have hown : s.vm.findClass "jdk/internal/util/Preconditions" = some m.cls := hown
  have N0 := Fr.nil n0
  refine own_st (fr' := (mkF m 1 #[.val (.int ii), .val (.int nn), .val fv] [(.int ii)])) (fun t k => XS.iloadN X0.here hx rfl (hb hby d26_0) rfl  k) ?_
  refine own_st (fr' := (mkF m 4 #[.val (.int ii), .val (.int nn), .val fv] [])) (fun t k => XS.ifNo X0.here hx rfl (hb hby d26_1) rfl ((if0 _ _).trans (own_flt (x := ii) (y := (0 : Int32)) (show ¬ ii.toInt < 0 from by omega)).1) k) ?_
  refine own_st (fr' := (mkF m 5 #[.val (.int ii), .val (.int nn), .val fv] [(.int ii)])) (fun t k => XS.iloadN X0.here hx rfl (hb hby d26_4) rfl  k) ?_
  refine own_st (fr' := (mkF m 6 #[.val (.int ii), .val (.int nn), .val fv] [(.int nn), (.int ii)])) (fun t k => XS.iloadN X0.here hx rfl (hb hby d26_5) rfl  k) ?_
  refine own_st (fr' := (mkF m 16 #[.val (.int ii), .val (.int nn), .val fv] [])) (fun t k => XS.icmpYes X0.here hx rfl (pc0 := 6) (pc' := 16) rfl (hb hby d26_6) rfl (own_tlt (x := ii) (y := nn) (show ii.toInt < nn.toInt from by omega)).1 (by decide) (by decide) k) ?_
  refine own_st (fr' := (mkF m 17 #[.val (.int ii), .val (.int nn), .val fv] [(.int ii)])) (fun t k => XS.iloadN X0.here hx rfl (hb hby d26_16) rfl  k) ?_
  exact own_retI X0 hx hlk hret (hb hby d26_17) (by decide) (by decide) (⟨rfl, N0, e0⟩)
theorem pd_10 : parseMethodDescriptor "(IILjava/util/function/BiFunction;)I" = some ⟨[.int, .int, (.object "java/util/function/BiFunction")], some .int⟩ := by decide +kernel
theorem d25_0 : decode jdk_42_method_155_code 0 = .ok (.iload_n 0, 1) := by decide +kernel
theorem d25_1 : decode jdk_42_method_155_code 1 = .ok (.iload_n 1, 1) := by decide +kernel
theorem d25_2 : decode jdk_42_method_155_code 2 = .ok (.getstatic 1053, 3) := by decide +kernel
theorem d25_5 : decode jdk_42_method_155_code 5 = .ok (.invokestatic 1059, 3) := by decide +kernel
theorem d25_8 : decode jdk_42_method_155_code 8 = .ok (.pop, 1) := by decide +kernel
theorem d25_9 : decode jdk_42_method_155_code 9 = .ok (.return_, 1) := by decide +kernel
theorem ef_sci (m : MethodId) (ii : Int32) (nn : Int32) : entryFrame m #[(.int ii), (.int nn)] 2 = mkF m 0 #[.val (.int ii), .val (.int nn)] [] := by first | (simp [entryFrame, mkF, argsToLocals, Value.category, maxLocals]; done) | rfl
def Q_sci (Z : State) (ii : Int32) (nn : Int32) (cz : Int32) (fv : Value) (h0 : Heap) (n0 : Nat) : Option Value → Heap → List Loc → Prop := fun v h L => v = none ∧ Fr n0 L ∧ h = h0
set_option maxRecDepth 65536 in
set_option maxHeartbeats 40000000 in
theorem rm_sci (l : Launch) (Z : State) (a0 : Array Value) (hw : ∀ d ∈ tables_1, d.before a0 Z = true) (ws : List Jvm.Cond) (ii : Int32) (nn : Int32) (cz : Int32) (fv : Value) (h0 : Heap) (n0 : Nat) (Z0 : n0 ≤ h0.size) (hi : 0 ≤ ii.toInt ∧ ii.toInt < nn.toInt) (S_cs : Sta Z h0 "java/lang/String" "COMPACT_STRINGS" "Z" (.int cz)) (S_fm : Sta Z h0 "jdk/internal/util/Preconditions" "SIOOBE_FORMATTER" "Ljava/util/function/BiFunction;" fv) (S_as : Sta Z h0 "java/lang/StringUTF16" "$assertionsDisabled" "Z" (.int (1 : Int32))) (S_hi : Sta Z h0 "java/lang/StringUTF16" "HI_BYTE_SHIFT" "I" (.int (0 : Int32))) (S_lo : Sta Z h0 "java/lang/StringUTF16" "LO_BYTE_SHIFT" "I" (.int (8 : Int32))) (hcz : ¬ cz.toInt = 0) (hfv : fv.isRef = true) :
    MetFree l (⟨"java/lang/String", "checkIndex", "(II)V"⟩ : MethodName) (head1 (Jvm.Cond.code (⟨"java/lang/String", "checkIndex", "(II)V"⟩ : MethodName) jdk_42_method_155_code 2 none :: ws) ({ frames := 1, cells := 0, slots := 0, locals := 14 } : Room)) (fun aX U => aX = #[(.int ii), (.int nn)] ∧ Z.Warmed39 U.vm ∧ U.heap = h0) (fun _ _ _ _ _ => True) (fun _ U o U' => ∃ v L, o = .returned v ∧ (Q_sci Z ii nn cz fv h0 n0) v U'.heap L ∧ FrameEnd U o U' L ({ frames := 1, cells := 0, slots := 0, locals := 14 } : Room).cells ({ frames := 1, cells := 0, slots := 0, locals := 14 } : Room).slots) := by
  refine own_met (Q := (Q_sci Z ii nn cz fv h0 n0)) (plainFor_of_name (x := (⟨"java/lang/String", "checkIndex", "(II)V"⟩ : MethodName)) pn_2) (fun m => ef_sci m ii nn) ?_
  intro p e s m below meth cD s₁ hx hby hml hret hlk hZ hown hnm X0 e0 hs0
  have hown : s.vm.findClass "java/lang/String" = some m.cls := hown
  have N0 := Fr.nil n0
  refine own_st (fr' := (mkF m 1 #[.val (.int ii), .val (.int nn)] [(.int ii)])) (fun t k => XS.iloadN X0.here hx rfl (hb hby d25_0) rfl  k) ?_
  refine own_st (fr' := (mkF m 2 #[.val (.int ii), .val (.int nn)] [(.int nn), (.int ii)])) (fun t k => XS.iloadN X0.here hx rfl (hb hby d25_1) rfl  k) ?_
  obtain ⟨T125, X125, e125, st125⟩ := getS2 X0 hx hZ hown (host := "") (Or.inl (hw _ (List.mem_of_getElem? (i := 54) rfl))) Via.refl e0 S_fm (g := (mkF m 2 #[.val (.int ii), .val (.int nn)] [(.int nn), (.int ii)])) rfl (hb hby d25_2)
  refine own_st (fr' := (mkF m 5 #[.val (.int ii), .val (.int nn)] [fv, (.int nn), (.int ii)])) st125 ?_
  refine own_callS X125 hx hZ (y := (⟨"jdk/internal/util/Preconditions", "checkIndex", "(IILjava/util/function/BiFunction;)I"⟩ : MethodName)) hown (hw _ (List.mem_of_getElem? (i := 111) rfl)) (hw _ (List.mem_of_getElem? (i := 112) rfl)) (hw _ (List.mem_of_getElem? (i := 55) rfl)) (hw _ (List.mem_of_getElem? (i := 113) rfl)) (by decide) (argsL := [(.int ii), (.int nn), fv]) (rest := []) (W := 0) (rm_pci l Z a0 hw [] ii nn fv h0 n0 Z0 hi hfv) e125 (by rw [hml]; rfl) (lenOf pd_10 rfl) rfl (Nat.le_of_eq rfl) (hb hby d25_5) (by decide) (by decide) (by decide) (by decide) ?_
  intro v126 T126 L126 X126 hQ126
  obtain ⟨rfl, Nq126, eq126⟩ := hQ126
  have N126 := Fr.app N0 Nq126
  refine own_st (fr' := (mkF m 9 #[.val (.int ii), .val (.int nn)] [])) (fun t k => XS.pop X126.here hx rfl (hb hby d25_8) rfl rfl k) ?_
  exact own_retV X126 hx hlk hret (hb hby d25_9) (by decide) (by decide) (⟨rfl, N126, eq126⟩)
theorem pd_11 : parseMethodDescriptor "(II)V" = some ⟨[.int, .int], none⟩ := by decide +kernel
theorem d31_0 : decode jdk_43_method_2_code 0 = .ok (.iload_n 1, 1) := by decide +kernel
theorem d31_1 : decode jdk_43_method_2_code 1 = .ok (.aload_n 0, 1) := by decide +kernel
theorem d31_2 : decode jdk_43_method_2_code 2 = .ok (.arraylength, 1) := by decide +kernel
theorem d31_3 : decode jdk_43_method_2_code 3 = .ok (.invokestatic 9, 3) := by decide +kernel
theorem d31_6 : decode jdk_43_method_2_code 6 = .ok (.aload_n 0, 1) := by decide +kernel
theorem d31_7 : decode jdk_43_method_2_code 7 = .ok (.iload_n 1, 1) := by decide +kernel
theorem d31_8 : decode jdk_43_method_2_code 8 = .ok (.baload, 1) := by decide +kernel
theorem d31_9 : decode jdk_43_method_2_code 9 = .ok (.sipush 255, 3) := by decide +kernel
theorem d31_12 : decode jdk_43_method_2_code 12 = .ok (.iand, 1) := by decide +kernel
theorem d31_13 : decode jdk_43_method_2_code 13 = .ok (.i2c, 1) := by decide +kernel
theorem d31_14 : decode jdk_43_method_2_code 14 = .ok (.ireturn, 1) := by decide +kernel
theorem pn_4 : plainName "java/lang/StringLatin1" = true := by first | (simp [plainName, overriddenIn]; done) | decide +kernel
theorem ef_lca (m : MethodId) (b : Addr) (ii : Int32) : entryFrame m #[(.ref b), (.int ii)] 2 = mkF m 0 #[.val (.ref b), .val (.int ii)] [] := by first | (simp [entryFrame, mkF, argsToLocals, Value.category, maxLocals]; done) | rfl
def Q_lca (Z : State) (b : Addr) (nb : Int32) (g : Nat → Value) (ii : Int32) (cc : Int32) (cz : Int32) (fv : Value) (h0 : Heap) (n0 : Nat) : Option Value → Heap → List Loc → Prop := fun v h L => v = some (.int cc) ∧ Fr n0 L ∧ h = h0
set_option maxRecDepth 65536 in
set_option maxHeartbeats 40000000 in
theorem rm_lca (l : Launch) (Z : State) (a0 : Array Value) (hw : ∀ d ∈ tables_1, d.before a0 Z = true) (ws : List Jvm.Cond) (b : Addr) (nb : Int32) (g : Nat → Value) (ii : Int32) (cc : Int32) (cz : Int32) (fv : Value) (h0 : Heap) (n0 : Nat) (Z0 : n0 ≤ h0.size) (VB : own_A Z h0 b .byte nb g) (hi : 0 ≤ ii.toInt ∧ ii.toInt < nb.toInt) (hcc : 0 ≤ cc.toInt ∧ cc.toInt ≤ 255) (hz : ∃ z : Int32, g ii.toInt.toNat = .int z ∧ (z.toInt - cc.toInt) % 256 = 0) (S_cs : Sta Z h0 "java/lang/String" "COMPACT_STRINGS" "Z" (.int cz)) (S_fm : Sta Z h0 "jdk/internal/util/Preconditions" "SIOOBE_FORMATTER" "Ljava/util/function/BiFunction;" fv) (S_as : Sta Z h0 "java/lang/StringUTF16" "$assertionsDisabled" "Z" (.int (1 : Int32))) (S_hi : Sta Z h0 "java/lang/StringUTF16" "HI_BYTE_SHIFT" "I" (.int (0 : Int32))) (S_lo : Sta Z h0 "java/lang/StringUTF16" "LO_BYTE_SHIFT" "I" (.int (8 : Int32))) (hcz : ¬ cz.toInt = 0) (hfv : fv.isRef = true) :
    MetFree l (⟨"java/lang/StringLatin1", "charAt", "([BI)C"⟩ : MethodName) (head1 (Jvm.Cond.code (⟨"java/lang/StringLatin1", "charAt", "([BI)C"⟩ : MethodName) jdk_43_method_2_code 2 (some .char) :: ws) ({ frames := 2, cells := 0, slots := 0, locals := 27 } : Room)) (fun aX U => aX = #[(.ref b), (.int ii)] ∧ Z.Warmed39 U.vm ∧ U.heap = h0) (fun _ _ _ _ _ => True) (fun _ U o U' => ∃ v L, o = .returned v ∧ (Q_lca Z b nb g ii cc cz fv h0 n0) v U'.heap L ∧ FrameEnd U o U' L ({ frames := 2, cells := 0, slots := 0, locals := 27 } : Room).cells ({ frames := 2, cells := 0, slots := 0, locals := 27 } : Room).slots) := by
  refine own_met (Q := (Q_lca Z b nb g ii cc cz fv h0 n0)) (plainFor_of_name (x := (⟨"java/lang/StringLatin1", "charAt", "([BI)C"⟩ : MethodName)) pn_4) (fun m => ef_lca m b ii) ?_
  intro p e s m below meth cD s₁ hx hby hml hret hlk hZ hown hnm X0 e0 hs0
  have hown : s.vm.findClass "java/lang/StringLatin1" = some m.cls := hown
  have N0 := Fr.nil n0
  obtain ⟨zz, ez, mz⟩ := hz
  refine own_st (fr' := (mkF m 1 #[.val (.ref b), .val (.int ii)] [(.int ii)])) (fun t k => XS.iloadN X0.here hx rfl (hb hby d31_0) rfl  k) ?_
  refine own_st (fr' := (mkF m 2 #[.val (.ref b), .val (.int ii)] [(.ref b), (.int ii)])) (fun t k => XS.aloadN X0.here hx rfl (hb hby d31_1) rfl rfl k) ?_
  refine own_alen X0 hx hZ e0 VB (hb hby d31_2) ?_
  refine own_callS X0 hx hZ (y := (⟨"java/lang/String", "checkIndex", "(II)V"⟩ : MethodName)) hown (hw _ (List.mem_of_getElem? (i := 132) rfl)) (hw _ (List.mem_of_getElem? (i := 109) rfl)) (hw _ (List.mem_of_getElem? (i := 11) rfl)) (hw _ (List.mem_of_getElem? (i := 110) rfl)) (by decide) (argsL := [(.int ii), (.int nb)]) (rest := []) (W := 0) (rm_sci l Z a0 hw [] ii nb cz fv h0 n0 Z0 hi S_cs S_fm S_as S_hi S_lo hcz hfv) e0 (by rw [hml]; rfl) (lenOf pd_11 rfl) rfl (Nat.le_of_eq rfl) (hb hby d31_3) (by decide) (by decide) (by decide) (by decide) ?_
  intro v127 T127 L127 X127 hQ127
  obtain ⟨rfl, Nq127, eq127⟩ := hQ127
  have N127 := Fr.app N0 Nq127
  refine own_st (fr' := (mkF m 7 #[.val (.ref b), .val (.int ii)] [(.ref b)])) (fun t k => XS.aloadN X127.here hx rfl (hb hby d31_6) rfl rfl k) ?_
  refine own_st (fr' := (mkF m 8 #[.val (.ref b), .val (.int ii)] [(.int ii), (.ref b)])) (fun t k => XS.iloadN X127.here hx rfl (hb hby d31_7) rfl  k) ?_
  refine own_baload (j := ii) X127 hx hZ eq127 VB (hi.1) (hi.2) (v := (.int zz)) (ez) (hb hby d31_8) ?_
  refine own_st (fr' := (mkF m 12 #[.val (.ref b), .val (.int ii)] [(.int (255 : Int32)), (.int zz)])) (fun t k => XS.sipush X127.here hx rfl (hb hby d31_9) k) ?_
  refine own_st (fr' := (mkF m 13 #[.val (.ref b), .val (.int ii)] [(.int (zz &&& (255 : Int32)))])) (fun t k => XS.iand X127.here hx rfl (hb hby d31_12) rfl k) ?_
  refine own_st (fr' := (mkF m 14 #[.val (.ref b), .val (.int ii)] [(.int ((zz &&& (255 : Int32)).toUInt32.toUInt16.toUInt32.toInt32))])) (fun t k => XS.i2c X127.here hx rfl (hb hby d31_13) rfl k) ?_
  rw [own_c8 cc zz hcc.1 hcc.2 mz]
  exact own_ret X127 hx hlk hret (own_narc _ hcc.1 (by omega)) (Or.inl ⟨rfl, by simp, _, rfl⟩) (hb hby d31_14) (by decide) (by decide) (⟨rfl, N127, eq127⟩)
theorem d24_0 : decode jdk_52_method_6_code 0 = .ok (.aload_n 0, 1) := by decide +kernel
theorem d24_1 : decode jdk_52_method_6_code 1 = .ok (.arraylength, 1) := by decide +kernel
theorem d24_2 : decode jdk_52_method_6_code 2 = .ok (.iconst 1, 1) := by decide +kernel
theorem d24_3 : decode jdk_52_method_6_code 3 = .ok (.ishr, 1) := by decide +kernel
theorem d24_4 : decode jdk_52_method_6_code 4 = .ok (.ireturn, 1) := by decide +kernel
theorem ef_ul (m : MethodId) (b : Addr) : entryFrame m #[(.ref b)] 1 = mkF m 0 #[.val (.ref b)] [] := by first | (simp [entryFrame, mkF, argsToLocals, Value.category, maxLocals]; done) | rfl
def Q_ul (Z : State) (b : Addr) (nb : Int32) (g : Nat → Value) (h0 : Heap) (n0 : Nat) : Option Value → Heap → List Loc → Prop := fun v h L => (∃ z : Int32, v = some (.int z) ∧ (z.toInt = nb.toInt / 2)) ∧ Fr n0 L ∧ h = h0
set_option maxRecDepth 65536 in
set_option maxHeartbeats 40000000 in
theorem rm_ul (l : Launch) (Z : State) (a0 : Array Value) (hw : ∀ d ∈ tables_1, d.before a0 Z = true) (ws : List Jvm.Cond) (b : Addr) (nb : Int32) (g : Nat → Value) (h0 : Heap) (n0 : Nat) (Z0 : n0 ≤ h0.size) (VB : own_A Z h0 b .byte nb g) :
    MetFree l (⟨"java/lang/StringUTF16", "length", "([B)I"⟩ : MethodName) (head1 (Jvm.Cond.code (⟨"java/lang/StringUTF16", "length", "([B)I"⟩ : MethodName) jdk_52_method_6_code 1 (some .int) :: ws) ({ frames := 0, cells := 0, slots := 0, locals := 0 } : Room)) (fun aX U => aX = #[(.ref b)] ∧ Z.Warmed39 U.vm ∧ U.heap = h0) (fun _ _ _ _ _ => True) (fun _ U o U' => ∃ v L, o = .returned v ∧ (Q_ul Z b nb g h0 n0) v U'.heap L ∧ FrameEnd U o U' L ({ frames := 0, cells := 0, slots := 0, locals := 0 } : Room).cells ({ frames := 0, cells := 0, slots := 0, locals := 0 } : Room).slots) := by
  refine own_met (Q := (Q_ul Z b nb g h0 n0)) (plainFor_of_name (x := (⟨"java/lang/StringUTF16", "length", "([B)I"⟩ : MethodName)) pn_0) (fun m => ef_ul m b) ?_
  intro p e s m below meth cD s₁ hx hby hml hret hlk hZ hown hnm X0 e0 hs0
  have hown : s.vm.findClass "java/lang/StringUTF16" = some m.cls := hown
  have N0 := Fr.nil n0
  refine own_st (fr' := (mkF m 1 #[.val (.ref b)] [(.ref b)])) (fun t k => XS.aloadN X0.here hx rfl (hb hby d24_0) rfl rfl k) ?_
  refine own_alen X0 hx hZ e0 VB (hb hby d24_1) ?_
  refine own_st (fr' := (mkF m 3 #[.val (.ref b)] [(.int (1 : Int32)), (.int nb)])) (fun t k => XS.iconst X0.here hx rfl (hb hby d24_2) k) ?_
  refine own_st (fr' := (mkF m 4 #[.val (.ref b)] [(.int (nb >>> ((1 : Int32) &&& 31)))])) (fun t k => XS.ishr X0.here hx rfl (hb hby d24_3) rfl k) ?_
  have q := c_ishr nb 1 1 (by decide)
  exact own_retI X0 hx hlk hret (hb hby d24_4) (by decide) (by decide) (⟨⟨_, rfl, by omega⟩, N0, e0⟩)
theorem pd_12 : parseMethodDescriptor "([B)I" = some ⟨[(.array .byte)], some .int⟩ := by decide +kernel
theorem d23_0 : decode jdk_52_method_91_code 0 = .ok (.iload_n 0, 1) := by decide +kernel
theorem d23_1 : decode jdk_52_method_91_code 1 = .ok (.aload_n 1, 1) := by decide +kernel
theorem d23_2 : decode jdk_52_method_91_code 2 = .ok (.invokestatic 48, 3) := by decide +kernel
theorem d23_5 : decode jdk_52_method_91_code 5 = .ok (.invokestatic 414, 3) := by decide +kernel
theorem d23_8 : decode jdk_52_method_91_code 8 = .ok (.return_, 1) := by decide +kernel
theorem ef_uci (m : MethodId) (ii : Int32) (b : Addr) : entryFrame m #[(.int ii), (.ref b)] 2 = mkF m 0 #[.val (.int ii), .val (.ref b)] [] := by first | (simp [entryFrame, mkF, argsToLocals, Value.category, maxLocals]; done) | rfl
def Q_uci (Z : State) (ii : Int32) (b : Addr) (nb : Int32) (g : Nat → Value) (cz : Int32) (fv : Value) (h0 : Heap) (n0 : Nat) : Option Value → Heap → List Loc → Prop := fun v h L => v = none ∧ Fr n0 L ∧ h = h0
set_option maxRecDepth 65536 in
set_option maxHeartbeats 40000000 in
theorem rm_uci (l : Launch) (Z : State) (a0 : Array Value) (hw : ∀ d ∈ tables_1, d.before a0 Z = true) (ws : List Jvm.Cond) (ii : Int32) (b : Addr) (nb : Int32) (g : Nat → Value) (cz : Int32) (fv : Value) (h0 : Heap) (n0 : Nat) (Z0 : n0 ≤ h0.size) (VB : own_A Z h0 b .byte nb g) (hi : 0 ≤ ii.toInt ∧ 2 * ii.toInt + 1 < nb.toInt) (S_cs : Sta Z h0 "java/lang/String" "COMPACT_STRINGS" "Z" (.int cz)) (S_fm : Sta Z h0 "jdk/internal/util/Preconditions" "SIOOBE_FORMATTER" "Ljava/util/function/BiFunction;" fv) (S_as : Sta Z h0 "java/lang/StringUTF16" "$assertionsDisabled" "Z" (.int (1 : Int32))) (S_hi : Sta Z h0 "java/lang/StringUTF16" "HI_BYTE_SHIFT" "I" (.int (0 : Int32))) (S_lo : Sta Z h0 "java/lang/StringUTF16" "LO_BYTE_SHIFT" "I" (.int (8 : Int32))) (hcz : ¬ cz.toInt = 0) (hfv : fv.isRef = true) :
    MetFree l (⟨"java/lang/StringUTF16", "checkIndex", "(I[B)V"⟩ : MethodName) (head1 (Jvm.Cond.code (⟨"java/lang/StringUTF16", "checkIndex", "(I[B)V"⟩ : MethodName) jdk_52_method_91_code 2 none :: ws) ({ frames := 2, cells := 0, slots := 0, locals := 27 } : Room)) (fun aX U => aX = #[(.int ii), (.ref b)] ∧ Z.Warmed39 U.vm ∧ U.heap = h0) (fun _ _ _ _ _ => True) (fun _ U o U' => ∃ v L, o = .returned v ∧ (Q_uci Z ii b nb g cz fv h0 n0) v U'.heap L ∧ FrameEnd U o U' L ({ frames := 2, cells := 0, slots := 0, locals := 27 } : Room).cells ({ frames := 2, cells := 0, slots := 0, locals := 27 } : Room).slots) := by
  refine own_met (Q := (Q_uci Z ii b nb g cz fv h0 n0)) (plainFor_of_name (x := (⟨"java/lang/StringUTF16", "checkIndex", "(I[B)V"⟩ : MethodName)) pn_0) (fun m => ef_uci m ii b) ?_
  intro p e s m below meth cD s₁ hx hby hml hret hlk hZ hown hnm X0 e0 hs0
  have hown : s.vm.findClass "java/lang/StringUTF16" = some m.cls := hown
  have N0 := Fr.nil n0
  refine own_st (fr' := (mkF m 1 #[.val (.int ii), .val (.ref b)] [(.int ii)])) (fun t k => XS.iloadN X0.here hx rfl (hb hby d23_0) rfl  k) ?_
  refine own_st (fr' := (mkF m 2 #[.val (.int ii), .val (.ref b)] [(.ref b), (.int ii)])) (fun t k => XS.aloadN X0.here hx rfl (hb hby d23_1) rfl rfl k) ?_
  refine own_callS X0 hx hZ (y := (⟨"java/lang/StringUTF16", "length", "([B)I"⟩ : MethodName)) hown (hw _ (List.mem_of_getElem? (i := 105) rfl)) (hw _ (List.mem_of_getElem? (i := 106) rfl)) (hw _ (List.mem_of_getElem? (i := 62) rfl)) (hw _ (List.mem_of_getElem? (i := 107) rfl)) (by decide) (argsL := [(.ref b)]) (rest := [(.int ii)]) (W := 1) (rm_ul l Z a0 hw [] b nb g h0 n0 Z0 VB) e0 (by rw [hml]; rfl) (lenOf pd_12 rfl) rfl (Nat.le_of_eq rfl) (hb hby d23_2) (by decide) (by decide) (by decide) (by decide) ?_
  intro v128 T128 L128 X128 hQ128
  obtain ⟨⟨zl, rfl, hzl⟩, Nq128, eq128⟩ := hQ128
  have N128 := Fr.app N0 Nq128
  refine own_callS X128 hx hZ (y := (⟨"java/lang/String", "checkIndex", "(II)V"⟩ : MethodName)) hown (hw _ (List.mem_of_getElem? (i := 108) rfl)) (hw _ (List.mem_of_getElem? (i := 109) rfl)) (hw _ (List.mem_of_getElem? (i := 11) rfl)) (hw _ (List.mem_of_getElem? (i := 110) rfl)) (by decide) (argsL := [(.int ii), (.int zl)]) (rest := []) (W := 0) (rm_sci l Z a0 hw [] ii zl cz fv h0 n0 Z0 ⟨hi.1, by omega⟩ S_cs S_fm S_as S_hi S_lo hcz hfv) eq128 (by rw [hml]; rfl) (lenOf pd_11 rfl) rfl (Nat.le_of_eq rfl) (hb hby d23_5) (by decide) (by decide) (by decide) (by decide) ?_
  intro v129 T129 L129 X129 hQ129
  obtain ⟨rfl, Nq129, eq129⟩ := hQ129
  have N129 := Fr.app N128 Nq129
  exact own_retV X129 hx hlk hret (hb hby d23_8) (by decide) (by decide) (⟨rfl, N129, eq129⟩)
theorem pd_13 : parseMethodDescriptor "(I[B)V" = some ⟨[.int, (.array .byte)], none⟩ := by decide +kernel
theorem d22_0 : decode jdk_52_method_83_code 0 = .ok (.iload_n 1, 1) := by decide +kernel
theorem d22_1 : decode jdk_52_method_83_code 1 = .ok (.aload_n 0, 1) := by decide +kernel
theorem d22_2 : decode jdk_52_method_83_code 2 = .ok (.invokestatic 67, 3) := by decide +kernel
theorem d22_5 : decode jdk_52_method_83_code 5 = .ok (.aload_n 0, 1) := by decide +kernel
theorem d22_6 : decode jdk_52_method_83_code 6 = .ok (.iload_n 1, 1) := by decide +kernel
theorem d22_7 : decode jdk_52_method_83_code 7 = .ok (.invokestatic 71, 3) := by decide +kernel
theorem d22_10 : decode jdk_52_method_83_code 10 = .ok (.ireturn, 1) := by decide +kernel
theorem ef_uca (m : MethodId) (b : Addr) (ii : Int32) : entryFrame m #[(.ref b), (.int ii)] 2 = mkF m 0 #[.val (.ref b), .val (.int ii)] [] := by first | (simp [entryFrame, mkF, argsToLocals, Value.category, maxLocals]; done) | rfl
def Q_uca (Z : State) (b : Addr) (nb : Int32) (g : Nat → Value) (ii : Int32) (cc : Int32) (cz : Int32) (fv : Value) (h0 : Heap) (n0 : Nat) : Option Value → Heap → List Loc → Prop := fun v h L => v = some (.int cc) ∧ Fr n0 L ∧ h = h0
set_option maxRecDepth 65536 in
set_option maxHeartbeats 40000000 in
theorem rm_uca (l : Launch) (Z : State) (a0 : Array Value) (hw : ∀ d ∈ tables_1, d.before a0 Z = true) (ws : List Jvm.Cond) (b : Addr) (nb : Int32) (g : Nat → Value) (ii : Int32) (cc : Int32) (cz : Int32) (fv : Value) (h0 : Heap) (n0 : Nat) (Z0 : n0 ≤ h0.size) (VB : own_A Z h0 b .byte nb g) (hii : 0 ≤ ii.toInt ∧ 2 * ii.toInt + 1 < nb.toInt ∧ ii.toInt ≤ 1000) (hcc : 0 ≤ cc.toInt ∧ cc.toInt ≤ 65535) (hP : own_P16 g ii.toInt.toNat cc) (S_cs : Sta Z h0 "java/lang/String" "COMPACT_STRINGS" "Z" (.int cz)) (S_fm : Sta Z h0 "jdk/internal/util/Preconditions" "SIOOBE_FORMATTER" "Ljava/util/function/BiFunction;" fv) (S_as : Sta Z h0 "java/lang/StringUTF16" "$assertionsDisabled" "Z" (.int (1 : Int32))) (S_hi : Sta Z h0 "java/lang/StringUTF16" "HI_BYTE_SHIFT" "I" (.int (0 : Int32))) (S_lo : Sta Z h0 "java/lang/StringUTF16" "LO_BYTE_SHIFT" "I" (.int (8 : Int32))) (hcz : ¬ cz.toInt = 0) (hfv : fv.isRef = true) :
    MetFree l (⟨"java/lang/StringUTF16", "charAt", "([BI)C"⟩ : MethodName) (head1 (Jvm.Cond.code (⟨"java/lang/StringUTF16", "charAt", "([BI)C"⟩ : MethodName) jdk_52_method_83_code 2 (some .char) :: ws) ({ frames := 3, cells := 0, slots := 0, locals := 40 } : Room)) (fun aX U => aX = #[(.ref b), (.int ii)] ∧ Z.Warmed39 U.vm ∧ U.heap = h0) (fun _ _ _ _ _ => True) (fun _ U o U' => ∃ v L, o = .returned v ∧ (Q_uca Z b nb g ii cc cz fv h0 n0) v U'.heap L ∧ FrameEnd U o U' L ({ frames := 3, cells := 0, slots := 0, locals := 40 } : Room).cells ({ frames := 3, cells := 0, slots := 0, locals := 40 } : Room).slots) := by
  refine own_met (Q := (Q_uca Z b nb g ii cc cz fv h0 n0)) (plainFor_of_name (x := (⟨"java/lang/StringUTF16", "charAt", "([BI)C"⟩ : MethodName)) pn_0) (fun m => ef_uca m b ii) ?_
  intro p e s m below meth cD s₁ hx hby hml hret hlk hZ hown hnm X0 e0 hs0
  have hown : s.vm.findClass "java/lang/StringUTF16" = some m.cls := hown
  have N0 := Fr.nil n0
  refine own_st (fr' := (mkF m 1 #[.val (.ref b), .val (.int ii)] [(.int ii)])) (fun t k => XS.iloadN X0.here hx rfl (hb hby d22_0) rfl  k) ?_
  refine own_st (fr' := (mkF m 2 #[.val (.ref b), .val (.int ii)] [(.ref b), (.int ii)])) (fun t k => XS.aloadN X0.here hx rfl (hb hby d22_1) rfl rfl k) ?_
  refine own_callS X0 hx hZ (y := (⟨"java/lang/StringUTF16", "checkIndex", "(I[B)V"⟩ : MethodName)) hown (hw _ (List.mem_of_getElem? (i := 102) rfl)) (hw _ (List.mem_of_getElem? (i := 103) rfl)) (hw _ (List.mem_of_getElem? (i := 62) rfl)) (hw _ (List.mem_of_getElem? (i := 104) rfl)) (by decide) (argsL := [(.int ii), (.ref b)]) (rest := []) (W := 0) (rm_uci l Z a0 hw [] ii b nb g cz fv h0 n0 Z0 VB ⟨hii.1, hii.2.1⟩ S_cs S_fm S_as S_hi S_lo hcz hfv) e0 (by rw [hml]; rfl) (lenOf pd_13 rfl) rfl (Nat.le_of_eq rfl) (hb hby d22_2) (by decide) (by decide) (by decide) (by decide) ?_
  intro v130 T130 L130 X130 hQ130
  obtain ⟨rfl, Nq130, eq130⟩ := hQ130
  have N130 := Fr.app N0 Nq130
  refine own_st (fr' := (mkF m 6 #[.val (.ref b), .val (.int ii)] [(.ref b)])) (fun t k => XS.aloadN X130.here hx rfl (hb hby d22_5) rfl rfl k) ?_
  refine own_st (fr' := (mkF m 7 #[.val (.ref b), .val (.int ii)] [(.int ii), (.ref b)])) (fun t k => XS.iloadN X130.here hx rfl (hb hby d22_6) rfl  k) ?_
  refine own_callS X130 hx hZ (y := (⟨"java/lang/StringUTF16", "getChar", "([BI)C"⟩ : MethodName)) hown (hw _ (List.mem_of_getElem? (i := 83) rfl)) (hw _ (List.mem_of_getElem? (i := 84) rfl)) (hw _ (List.mem_of_getElem? (i := 62) rfl)) (hw _ (List.mem_of_getElem? (i := 85) rfl)) (by decide) (argsL := [(.ref b), (.int ii)]) (rest := []) (W := 0) (rm_getc l Z a0 hw [] b nb g ii cc cz fv h0 n0 Z0 VB hii hcc hP S_cs S_fm S_as S_hi S_lo hcz hfv) eq130 (by rw [hml]; rfl) (lenOf pd_5 rfl) rfl (Nat.le_of_eq rfl) (hb hby d22_7) (by decide) (by decide) (by decide) (by decide) ?_
  intro v131 T131 L131 X131 hQ131
  obtain ⟨rfl, Nq131, eq131⟩ := hQ131
  have N131 := Fr.app N130 Nq131
  exact own_ret X131 hx hlk hret (own_narc _ hcc.1 hcc.2) (Or.inl ⟨rfl, by simp, _, rfl⟩) (hb hby d22_10) (by decide) (by decide) (⟨rfl, N131, eq131⟩)
theorem pd_14 : parseMethodDescriptor "()Z" = some ⟨[], some .boolean⟩ := by decide +kernel
theorem d20_0 : decode jdk_42_method_56_code 0 = .ok (.aload_n 0, 1) := by decide +kernel
theorem d20_1 : decode jdk_42_method_56_code 1 = .ok (.invokevirtual 492, 3) := by decide +kernel
theorem d20_4 : decode jdk_42_method_56_code 4 = .ok (.ifCond .eq 12, 3) := by decide +kernel
theorem d20_7 : decode jdk_42_method_56_code 7 = .ok (.aload_n 0, 1) := by decide +kernel
theorem d20_8 : decode jdk_42_method_56_code 8 = .ok (.getfield 9, 3) := by decide +kernel
theorem d20_11 : decode jdk_42_method_56_code 11 = .ok (.iload_n 1, 1) := by decide +kernel
theorem d20_12 : decode jdk_42_method_56_code 12 = .ok (.invokestatic 495, 3) := by decide +kernel
theorem d20_15 : decode jdk_42_method_56_code 15 = .ok (.ireturn, 1) := by decide +kernel
theorem d20_16 : decode jdk_42_method_56_code 16 = .ok (.aload_n 0, 1) := by decide +kernel
theorem d20_17 : decode jdk_42_method_56_code 17 = .ok (.getfield 9, 3) := by decide +kernel
theorem d20_20 : decode jdk_42_method_56_code 20 = .ok (.iload_n 1, 1) := by decide +kernel
theorem d20_21 : decode jdk_42_method_56_code 21 = .ok (.invokestatic 498, 3) := by decide +kernel
theorem d20_24 : decode jdk_42_method_56_code 24 = .ok (.ireturn, 1) := by decide +kernel
theorem ef_cha (m : MethodId) (ii : Int32) : entryFrame m #[(.ref x'), (.int ii)] 2 = mkF m 0 #[.val (.ref x'), .val (.int ii)] [] := by first | (simp [entryFrame, mkF, argsToLocals, Value.category, maxLocals]; done) | rfl
def Q_cha (Z : State) (x' : Addr) (q : Int32) (cs : Nat → Int32) (ii : Int32) (cz : Int32) (fv : Value) (h0 : Heap) (n0 : Nat) : Option Value → Heap → List Loc → Prop := fun v h L => v = some (.int (cs ii.toInt.toNat)) ∧ Fr n0 L ∧ h = h0
set_option maxRecDepth 65536 in
set_option maxHeartbeats 40000000 in
theorem rm_cha (l : Launch) (Z : State) (a0 : Array Value) (hw : ∀ d ∈ tables_1, d.before a0 Z = true) (ws : List Jvm.Cond) (x' : Addr) (q : Int32) (cs : Nat → Int32) (ii : Int32) (cz : Int32) (fv : Value) (h0 : Heap) (n0 : Nat) (Z0 : n0 ≤ h0.size) (P : own_Str Z h0 x' q cs) (hi : 0 ≤ ii.toInt ∧ ii.toInt < q.toInt ∧ q.toInt ≤ 5) (hR : own_Rg cs) (S_cs : Sta Z h0 "java/lang/String" "COMPACT_STRINGS" "Z" (.int cz)) (S_fm : Sta Z h0 "jdk/internal/util/Preconditions" "SIOOBE_FORMATTER" "Ljava/util/function/BiFunction;" fv) (S_as : Sta Z h0 "java/lang/StringUTF16" "$assertionsDisabled" "Z" (.int (1 : Int32))) (S_hi : Sta Z h0 "java/lang/StringUTF16" "HI_BYTE_SHIFT" "I" (.int (0 : Int32))) (S_lo : Sta Z h0 "java/lang/StringUTF16" "LO_BYTE_SHIFT" "I" (.int (8 : Int32))) (hcz : ¬ cz.toInt = 0) (hfv : fv.isRef = true) :
    MetFree l (⟨"java/lang/String", "charAt", "(I)C"⟩ : MethodName) (head1 (Jvm.Cond.code (⟨"java/lang/String", "charAt", "(I)C"⟩ : MethodName) jdk_42_method_56_code 2 (some .char) :: ws) ({ frames := 4, cells := 0, slots := 0, locals := 53 } : Room)) (fun aX U => aX = #[(.ref x'), (.int ii)] ∧ Z.Warmed39 U.vm ∧ U.heap = h0) (fun _ _ _ _ _ => True) (fun _ U o U' => ∃ v L, o = .returned v ∧ (Q_cha Z x' q cs ii cz fv h0 n0) v U'.heap L ∧ FrameEnd U o U' L ({ frames := 4, cells := 0, slots := 0, locals := 53 } : Room).cells ({ frames := 4, cells := 0, slots := 0, locals := 53 } : Room).slots) := by
  refine own_met (Q := (Q_cha Z x' q cs ii cz fv h0 n0)) (plainFor_of_name (x := (⟨"java/lang/String", "charAt", "(I)C"⟩ : MethodName)) pn_2) (fun m => ef_cha m ii) ?_
  intro p e s m below meth cD s₁ hx hby hml hret hlk hZ hown hnm X0 e0 hs0
  have hown : s.vm.findClass "java/lang/String" = some m.cls := hown
  have N0 := Fr.nil n0
  obtain ⟨r, nb, g, cod, E0, F1, F2, VR, HB⟩ := P
  refine own_st (fr' := (mkF m 1 #[.val (.ref x'), .val (.int ii)] [(.ref x')])) (fun t k => XS.aloadN X0.here hx rfl (hb hby d20_0) rfl rfl k) ?_
  refine own_callV X0 hx hZ (y := (⟨"java/lang/String", "isLatin1", "()Z"⟩ : MethodName)) (z := (⟨"java/lang/String", "isLatin1", "()Z"⟩ : MethodName)) hown (hw _ (List.mem_of_getElem? (i := 94) rfl)) (hw _ (List.mem_of_getElem? (i := 95) rfl)) (notFace_of_selects (args := #[]) (mvT hZ (hw _ (List.mem_of_getElem? (i := 97) rfl)))) (hw _ (List.mem_of_getElem? (i := 97) rfl)) (hw _ (List.mem_of_getElem? (i := 96) rfl)) (hw _ (List.mem_of_getElem? (i := 11) rfl)) (hw _ (List.mem_of_getElem? (i := 98) rfl)) (by decide) (a := x') (argsL := []) (rest := []) (W := 0) (rm_isl l Z a0 hw [] x' cod cz fv h0 n0 Z0 F2 HB.b S_cs S_fm S_as S_hi S_lo hcz hfv) e0 E0 (by rw [hml]; rfl) (lenOf pd_14 rfl) rfl (Nat.le_of_eq rfl) (hb hby d20_1) (by decide) (by decide) (by decide) (by decide) ?_
  intro v132 T132 L132 X132 hQ132
  obtain ⟨⟨zl, rfl, hzl⟩, Nq132, eq132⟩ := hQ132
  have N132 := Fr.app N0 Nq132
  by_cases hzl0 : zl.toInt = 0
  · refine own_st (fr' := (mkF m 16 #[.val (.ref x'), .val (.int ii)] [])) (fun t k => XS.ifYes X132.here hx rfl (pc0 := 4) (pc' := 16) rfl (hb hby d20_4) rfl ((if0 _ _).trans (own_teq (x := zl) (y := (0 : Int32)) hzl0).1) (by decide) (by decide) k) ?_
    obtain ⟨hnb, H16, hbig⟩ : nb.toInt = 2 * q.toInt ∧ own_S16 g q.toInt cs ∧ True := by
      rcases hzl with ⟨-, z1⟩ | ⟨z1, -⟩
      · omega
      · rcases HB with ⟨b1, -⟩ | ⟨-, b1, b2, -⟩
        · rw [b1] at z1; exact absurd z1 (by decide)
        · exact ⟨b1, b2, trivial⟩
    refine own_st (fr' := (mkF m 17 #[.val (.ref x'), .val (.int ii)] [(.ref x')])) (fun t k => XS.aloadN X132.here hx rfl (hb hby d20_16) rfl rfl k) ?_
    obtain ⟨T133, X133, e133, st133⟩ := getF X132 hx hZ hown (host := "") (Or.inl (hw _ (List.mem_of_getElem? (i := 28) rfl))) Via.refl eq132 F1 (g := (mkF m 17 #[.val (.ref x'), .val (.int ii)] [(.ref x')])) rfl rfl (hb hby d20_17)
    refine own_st (fr' := (mkF m 20 #[.val (.ref x'), .val (.int ii)] [(.ref r)])) st133 ?_
    refine own_st (fr' := (mkF m 21 #[.val (.ref x'), .val (.int ii)] [(.int ii), (.ref r)])) (fun t k => XS.iloadN X133.here hx rfl (hb hby d20_20) rfl  k) ?_
    refine own_callS X133 hx hZ (y := (⟨"java/lang/StringUTF16", "charAt", "([BI)C"⟩ : MethodName)) hown (hw _ (List.mem_of_getElem? (i := 99) rfl)) (hw _ (List.mem_of_getElem? (i := 100) rfl)) (hw _ (List.mem_of_getElem? (i := 62) rfl)) (hw _ (List.mem_of_getElem? (i := 101) rfl)) (by decide) (argsL := [(.ref r), (.int ii)]) (rest := []) (W := 0) (rm_uca l Z a0 hw [] r nb g ii (cs ii.toInt.toNat) cz fv h0 n0 Z0 VR ⟨hi.1, by omega, by omega⟩ (hR _) (H16 _ (by omega)) S_cs S_fm S_as S_hi S_lo hcz hfv) e133 (by rw [hml]; rfl) (lenOf pd_5 rfl) rfl (Nat.le_of_eq rfl) (hb hby d20_21) (by decide) (by decide) (by decide) (by decide) ?_
    intro v134 T134 L134 X134 hQ134
    obtain ⟨rfl, Nq134, eq134⟩ := hQ134
    have N134 := Fr.app N132 Nq134
    exact own_ret X134 hx hlk hret (own_narc _ (hR _).1 (hR _).2) (Or.inl ⟨rfl, by simp, _, rfl⟩) (hb hby d20_24) (by decide) (by decide) (⟨rfl, N134, eq134⟩)
  · refine own_st (fr' := (mkF m 7 #[.val (.ref x'), .val (.int ii)] [])) (fun t k => XS.ifNo X132.here hx rfl (hb hby d20_4) rfl ((if0 _ _).trans (own_feq (x := zl) (y := (0 : Int32)) hzl0).1) k) ?_
    obtain ⟨hnb, H8⟩ : nb.toInt = q.toInt ∧ own_S8 g q.toInt cs := by
      rcases hzl with ⟨z1, -⟩ | ⟨-, z1⟩
      · rcases HB with ⟨-, b1, b2⟩ | ⟨b1, -⟩
        · exact ⟨b1, b2⟩
        · rw [b1] at z1; exact absurd z1 (by decide)
      · omega
    have h8 := H8 ii.toInt.toNat (by omega)
    refine own_st (fr' := (mkF m 8 #[.val (.ref x'), .val (.int ii)] [(.ref x')])) (fun t k => XS.aloadN X132.here hx rfl (hb hby d20_7) rfl rfl k) ?_
    obtain ⟨T135, X135, e135, st135⟩ := getF X132 hx hZ hown (host := "") (Or.inl (hw _ (List.mem_of_getElem? (i := 28) rfl))) Via.refl eq132 F1 (g := (mkF m 8 #[.val (.ref x'), .val (.int ii)] [(.ref x')])) rfl rfl (hb hby d20_8)
    refine own_st (fr' := (mkF m 11 #[.val (.ref x'), .val (.int ii)] [(.ref r)])) st135 ?_
    refine own_st (fr' := (mkF m 12 #[.val (.ref x'), .val (.int ii)] [(.int ii), (.ref r)])) (fun t k => XS.iloadN X135.here hx rfl (hb hby d20_11) rfl  k) ?_
    refine own_callS X135 hx hZ (y := (⟨"java/lang/StringLatin1", "charAt", "([BI)C"⟩ : MethodName)) hown (hw _ (List.mem_of_getElem? (i := 128) rfl)) (hw _ (List.mem_of_getElem? (i := 129) rfl)) (hw _ (List.mem_of_getElem? (i := 130) rfl)) (hw _ (List.mem_of_getElem? (i := 131) rfl)) (by decide) (argsL := [(.ref r), (.int ii)]) (rest := []) (W := 0) (rm_lca l Z a0 hw [] r nb g ii (cs ii.toInt.toNat) cz fv h0 n0 Z0 VR ⟨hi.1, by omega⟩ ⟨(hR _).1, h8.1⟩ h8.2 S_cs S_fm S_as S_hi S_lo hcz hfv) e135 (by rw [hml]; rfl) (lenOf pd_5 rfl) rfl (Nat.le_of_eq rfl) (hb hby d20_12) (by decide) (by decide) (by decide) (by decide) ?_
    intro v136 T136 L136 X136 hQ136
    obtain ⟨rfl, Nq136, eq136⟩ := hQ136
    have N136 := Fr.app N132 Nq136
    exact own_ret X136 hx hlk hret (own_narc _ (hR _).1 (hR _).2) (Or.inl ⟨rfl, by simp, _, rfl⟩) (hb hby d20_15) (by decide) (by decide) (⟨rfl, N136, eq136⟩)
theorem d11_0 : decode jdk_41_method_12_code 0 = .ok (.iload_n 0, 1) := by decide +kernel
theorem d11_1 : decode jdk_41_method_12_code 1 = .ok (.ifCond .lt 13, 3) := by decide +kernel
theorem d11_4 : decode jdk_41_method_12_code 4 = .ok (.iload_n 0, 1) := by decide +kernel
theorem d11_5 : decode jdk_41_method_12_code 5 = .ok (.iload_n 1, 1) := by decide +kernel
theorem d11_6 : decode jdk_41_method_12_code 6 = .ok (.if_icmp .gt 8, 3) := by decide +kernel
theorem d11_9 : decode jdk_41_method_12_code 9 = .ok (.iload_n 1, 1) := by decide +kernel
theorem d11_10 : decode jdk_41_method_12_code 10 = .ok (.iload_n 2, 1) := by decide +kernel
theorem d11_11 : decode jdk_41_method_12_code 11 = .ok (.if_icmp .le 11, 3) := by decide +kernel
theorem d11_22 : decode jdk_41_method_12_code 22 = .ok (.iload_n 0, 1) := by decide +kernel
theorem d11_23 : decode jdk_41_method_12_code 23 = .ok (.ireturn, 1) := by decide +kernel
theorem ef_pft (m : MethodId) (ia : Int32) (ie : Int32) (nn : Int32) (fv : Value) (hfv : fv.isRef = true) : entryFrame m #[(.int ia), (.int ie), (.int nn), fv] 4 = mkF m 0 #[.val (.int ia), .val (.int ie), .val (.int nn), .val fv] [] := by cases fv <;> first | rfl | (simp [Value.isRef] at hfv; done)
def Q_pft (Z : State) (ia : Int32) (ie : Int32) (nn : Int32) (fv : Value) (h0 : Heap) (n0 : Nat) : Option Value → Heap → List Loc → Prop := fun v h L => v = some (.int ia) ∧ Fr n0 L ∧ h = h0
set_option maxRecDepth 65536 in
set_option maxHeartbeats 40000000 in
theorem rm_pft (l : Launch) (Z : State) (a0 : Array Value) (hw : ∀ d ∈ tables_1, d.before a0 Z = true) (ws : List Jvm.Cond) (ia : Int32) (ie : Int32) (nn : Int32) (fv : Value) (h0 : Heap) (n0 : Nat) (Z0 : n0 ≤ h0.size) (hi : 0 ≤ ia.toInt ∧ ia.toInt ≤ ie.toInt ∧ ie.toInt ≤ nn.toInt) (hfv : fv.isRef = true) :
    MetFree l (⟨"jdk/internal/util/Preconditions", "checkFromToIndex", "(IIILjava/util/function/BiFunction;)I"⟩ : MethodName) (head1 (Jvm.Cond.code (⟨"jdk/internal/util/Preconditions", "checkFromToIndex", "(IIILjava/util/function/BiFunction;)I"⟩ : MethodName) jdk_41_method_12_code 4 (some .int) :: ws) ({ frames := 0, cells := 0, slots := 0, locals := 0 } : Room)) (fun aX U => aX = #[(.int ia), (.int ie), (.int nn), fv] ∧ Z.Warmed39 U.vm ∧ U.heap = h0) (fun _ _ _ _ _ => True) (fun _ U o U' => ∃ v L, o = .returned v ∧ (Q_pft Z ia ie nn fv h0 n0) v U'.heap L ∧ FrameEnd U o U' L ({ frames := 0, cells := 0, slots := 0, locals := 0 } : Room).cells ({ frames := 0, cells := 0, slots := 0, locals := 0 } : Room).slots) := by
  refine own_met (Q := (Q_pft Z ia ie nn fv h0 n0)) (plainFor_of_name (x := (⟨"jdk/internal/util/Preconditions", "checkFromToIndex", "(IIILjava/util/function/BiFunction;)I"⟩ : MethodName)) pn_3) (fun m => ef_pft m ia ie nn fv hfv) ?_
  intro p e s m below meth cD s₁ hx hby hml hret hlk hZ hown hnm X0 e0 hs0
  have hown : s.vm.findClass "jdk/internal/util/Preconditions" = some m.cls := hown
  have N0 := Fr.nil n0
  refine own_st (fr' := (mkF m 1 #[.val (.int ia), .val (.int ie), .val (.int nn), .val fv] [(.int ia)])) (fun t k => XS.iloadN X0.here hx rfl (hb hby d11_0) rfl  k) ?_
  refine own_st (fr' := (mkF m 4 #[.val (.int ia), .val (.int ie), .val (.int nn), .val fv] [])) (fun t k => XS.ifNo X0.here hx rfl (hb hby d11_1) rfl ((if0 _ _).trans (own_flt (x := ia) (y := (0 : Int32)) (show ¬ ia.toInt < 0 from by omega)).1) k) ?_
  refine own_st (fr' := (mkF m 5 #[.val (.int ia), .val (.int ie), .val (.int nn), .val fv] [(.int ia)])) (fun t k => XS.iloadN X0.here hx rfl (hb hby d11_4) rfl  k) ?_
  refine own_st (fr' := (mkF m 6 #[.val (.int ia), .val (.int ie), .val (.int nn), .val fv] [(.int ie), (.int ia)])) (fun t k => XS.iloadN X0.here hx rfl (hb hby d11_5) rfl  k) ?_
  refine own_st (fr' := (mkF m 9 #[.val (.int ia), .val (.int ie), .val (.int nn), .val fv] [])) (fun t k => XS.icmpNo X0.here hx rfl (hb hby d11_6) rfl (own_flt (x := ie) (y := ia) (show ¬ ie.toInt < ia.toInt from by omega)).2.2.1 k) ?_
  refine own_st (fr' := (mkF m 10 #[.val (.int ia), .val (.int ie), .val (.int nn), .val fv] [(.int ie)])) (fun t k => XS.iloadN X0.here hx rfl (hb hby d11_9) rfl  k) ?_
  refine own_st (fr' := (mkF m 11 #[.val (.int ia), .val (.int ie), .val (.int nn), .val fv] [(.int nn), (.int ie)])) (fun t k => XS.iloadN X0.here hx rfl (hb hby d11_10) rfl  k) ?_
  refine own_st (fr' := (mkF m 22 #[.val (.int ia), .val (.int ie), .val (.int nn), .val fv] [])) (fun t k => XS.icmpYes X0.here hx rfl (pc0 := 11) (pc' := 22) rfl (hb hby d11_11) rfl (own_flt (x := nn) (y := ie) (show ¬ nn.toInt < ie.toInt from by omega)).2.2.2 (by decide) (by decide) k) ?_
  refine own_st (fr' := (mkF m 23 #[.val (.int ia), .val (.int ie), .val (.int nn), .val fv] [(.int ia)])) (fun t k => XS.iloadN X0.here hx rfl (hb hby d11_22) rfl  k) ?_
  exact own_retI X0 hx hlk hret (hb hby d11_23) (by decide) (by decide) (⟨rfl, N0, e0⟩)
theorem pd_15 : parseMethodDescriptor "(IIILjava/util/function/BiFunction;)I" = some ⟨[.int, .int, .int, (.object "java/util/function/BiFunction")], some .int⟩ := by decide +kernel
theorem d10_0 : decode jdk_42_method_158_code 0 = .ok (.iload_n 0, 1) := by decide +kernel
theorem d10_1 : decode jdk_42_method_158_code 1 = .ok (.iload_n 1, 1) := by decide +kernel
theorem d10_2 : decode jdk_42_method_158_code 2 = .ok (.iload_n 2, 1) := by decide +kernel
theorem d10_3 : decode jdk_42_method_158_code 3 = .ok (.getstatic 1053, 3) := by decide +kernel
theorem d10_6 : decode jdk_42_method_158_code 6 = .ok (.invokestatic 1062, 3) := by decide +kernel
theorem d10_9 : decode jdk_42_method_158_code 9 = .ok (.pop, 1) := by decide +kernel
theorem d10_10 : decode jdk_42_method_158_code 10 = .ok (.return_, 1) := by decide +kernel
theorem ef_cbe (m : MethodId) (ia : Int32) (ie : Int32) (nn : Int32) : entryFrame m #[(.int ia), (.int ie), (.int nn)] 3 = mkF m 0 #[.val (.int ia), .val (.int ie), .val (.int nn)] [] := by first | (simp [entryFrame, mkF, argsToLocals, Value.category, maxLocals]; done) | rfl
def Q_cbe (Z : State) (ia : Int32) (ie : Int32) (nn : Int32) (cz : Int32) (fv : Value) (h0 : Heap) (n0 : Nat) : Option Value → Heap → List Loc → Prop := fun v h L => v = none ∧ Fr n0 L ∧ h = h0
set_option maxRecDepth 65536 in
set_option maxHeartbeats 40000000 in
theorem rm_cbe (l : Launch) (Z : State) (a0 : Array Value) (hw : ∀ d ∈ tables_1, d.before a0 Z = true) (ws : List Jvm.Cond) (ia : Int32) (ie : Int32) (nn : Int32) (cz : Int32) (fv : Value) (h0 : Heap) (n0 : Nat) (Z0 : n0 ≤ h0.size) (hi : 0 ≤ ia.toInt ∧ ia.toInt ≤ ie.toInt ∧ ie.toInt ≤ nn.toInt) (S_cs : Sta Z h0 "java/lang/String" "COMPACT_STRINGS" "Z" (.int cz)) (S_fm : Sta Z h0 "jdk/internal/util/Preconditions" "SIOOBE_FORMATTER" "Ljava/util/function/BiFunction;" fv) (S_as : Sta Z h0 "java/lang/StringUTF16" "$assertionsDisabled" "Z" (.int (1 : Int32))) (S_hi : Sta Z h0 "java/lang/StringUTF16" "HI_BYTE_SHIFT" "I" (.int (0 : Int32))) (S_lo : Sta Z h0 "java/lang/StringUTF16" "LO_BYTE_SHIFT" "I" (.int (8 : Int32))) (hcz : ¬ cz.toInt = 0) (hfv : fv.isRef = true) :
    MetFree l (⟨"java/lang/String", "checkBoundsBeginEnd", "(III)V"⟩ : MethodName) (head1 (Jvm.Cond.code (⟨"java/lang/String", "checkBoundsBeginEnd", "(III)V"⟩ : MethodName) jdk_42_method_158_code 3 none :: ws) ({ frames := 1, cells := 0, slots := 0, locals := 15 } : Room)) (fun aX U => aX = #[(.int ia), (.int ie), (.int nn)] ∧ Z.Warmed39 U.vm ∧ U.heap = h0) (fun _ _ _ _ _ => True) (fun _ U o U' => ∃ v L, o = .returned v ∧ (Q_cbe Z ia ie nn cz fv h0 n0) v U'.heap L ∧ FrameEnd U o U' L ({ frames := 1, cells := 0, slots := 0, locals := 15 } : Room).cells ({ frames := 1, cells := 0, slots := 0, locals := 15 } : Room).slots) := by
  refine own_met (Q := (Q_cbe Z ia ie nn cz fv h0 n0)) (plainFor_of_name (x := (⟨"java/lang/String", "checkBoundsBeginEnd", "(III)V"⟩ : MethodName)) pn_2) (fun m => ef_cbe m ia ie nn) ?_
  intro p e s m below meth cD s₁ hx hby hml hret hlk hZ hown hnm X0 e0 hs0
  have hown : s.vm.findClass "java/lang/String" = some m.cls := hown
  have N0 := Fr.nil n0
  refine own_st (fr' := (mkF m 1 #[.val (.int ia), .val (.int ie), .val (.int nn)] [(.int ia)])) (fun t k => XS.iloadN X0.here hx rfl (hb hby d10_0) rfl  k) ?_
  refine own_st (fr' := (mkF m 2 #[.val (.int ia), .val (.int ie), .val (.int nn)] [(.int ie), (.int ia)])) (fun t k => XS.iloadN X0.here hx rfl (hb hby d10_1) rfl  k) ?_
  refine own_st (fr' := (mkF m 3 #[.val (.int ia), .val (.int ie), .val (.int nn)] [(.int nn), (.int ie), (.int ia)])) (fun t k => XS.iloadN X0.here hx rfl (hb hby d10_2) rfl  k) ?_
  obtain ⟨T137, X137, e137, st137⟩ := getS2 X0 hx hZ hown (host := "") (Or.inl (hw _ (List.mem_of_getElem? (i := 54) rfl))) Via.refl e0 S_fm (g := (mkF m 3 #[.val (.int ia), .val (.int ie), .val (.int nn)] [(.int nn), (.int ie), (.int ia)])) rfl (hb hby d10_3)
  refine own_st (fr' := (mkF m 6 #[.val (.int ia), .val (.int ie), .val (.int nn)] [fv, (.int nn), (.int ie), (.int ia)])) st137 ?_
  refine own_callS X137 hx hZ (y := (⟨"jdk/internal/util/Preconditions", "checkFromToIndex", "(IIILjava/util/function/BiFunction;)I"⟩ : MethodName)) hown (hw _ (List.mem_of_getElem? (i := 56) rfl)) (hw _ (List.mem_of_getElem? (i := 57) rfl)) (hw _ (List.mem_of_getElem? (i := 55) rfl)) (hw _ (List.mem_of_getElem? (i := 58) rfl)) (by decide) (argsL := [(.int ia), (.int ie), (.int nn), fv]) (rest := []) (W := 0) (rm_pft l Z a0 hw [] ia ie nn fv h0 n0 Z0 hi hfv) e137 (by rw [hml]; rfl) (lenOf pd_15 rfl) rfl (Nat.le_of_eq rfl) (hb hby d10_6) (by decide) (by decide) (by decide) (by decide) ?_
  intro v138 T138 L138 X138 hQ138
  obtain ⟨rfl, Nq138, eq138⟩ := hQ138
  have N138 := Fr.app N0 Nq138
  refine own_st (fr' := (mkF m 10 #[.val (.int ia), .val (.int ie), .val (.int nn)] [])) (fun t k => XS.pop X138.here hx rfl (hb hby d10_9) rfl rfl k) ?_
  exact own_retV X138 hx hlk hret (hb hby d10_10) (by decide) (by decide) (⟨rfl, N138, eq138⟩)
theorem d43_0 : decode jdk_41_method_13_code 0 = .ok (.iload_n 2, 1) := by decide +kernel
theorem d43_1 : decode jdk_41_method_13_code 1 = .ok (.iload_n 0, 1) := by decide +kernel
theorem d43_2 : decode jdk_41_method_13_code 2 = .ok (.ior, 1) := by decide +kernel
theorem d43_3 : decode jdk_41_method_13_code 3 = .ok (.iload_n 1, 1) := by decide +kernel
theorem d43_4 : decode jdk_41_method_13_code 4 = .ok (.ior, 1) := by decide +kernel
theorem d43_5 : decode jdk_41_method_13_code 5 = .ok (.ifCond .lt 10, 3) := by decide +kernel
theorem d43_8 : decode jdk_41_method_13_code 8 = .ok (.iload_n 1, 1) := by decide +kernel
theorem d43_9 : decode jdk_41_method_13_code 9 = .ok (.iload_n 2, 1) := by decide +kernel
theorem d43_10 : decode jdk_41_method_13_code 10 = .ok (.iload_n 0, 1) := by decide +kernel
theorem d43_11 : decode jdk_41_method_13_code 11 = .ok (.isub, 1) := by decide +kernel
theorem d43_12 : decode jdk_41_method_13_code 12 = .ok (.if_icmp .le 11, 3) := by decide +kernel
theorem d43_23 : decode jdk_41_method_13_code 23 = .ok (.iload_n 0, 1) := by decide +kernel
theorem d43_24 : decode jdk_41_method_13_code 24 = .ok (.ireturn, 1) := by decide +kernel
theorem ef_pfs (m : MethodId) (ia : Int32) (ic : Int32) (nn : Int32) (fv : Value) (hfv : fv.isRef = true) : entryFrame m #[(.int ia), (.int ic), (.int nn), fv] 4 = mkF m 0 #[.val (.int ia), .val (.int ic), .val (.int nn), .val fv] [] := by cases fv <;> first | rfl | (simp [Value.isRef] at hfv; done)
def Q_pfs (Z : State) (ia : Int32) (ic : Int32) (nn : Int32) (fv : Value) (h0 : Heap) (n0 : Nat) : Option Value → Heap → List Loc → Prop := fun v h L => v = some (.int ia) ∧ Fr n0 L ∧ h = h0
set_option maxRecDepth 65536 in
set_option maxHeartbeats 40000000 in
theorem rm_pfs (l : Launch) (Z : State) (a0 : Array Value) (hw : ∀ d ∈ tables_1, d.before a0 Z = true) (ws : List Jvm.Cond) (ia : Int32) (ic : Int32) (nn : Int32) (fv : Value) (h0 : Heap) (n0 : Nat) (Z0 : n0 ≤ h0.size) (hi : 0 ≤ ia.toInt ∧ 0 ≤ ic.toInt ∧ ia.toInt + ic.toInt ≤ nn.toInt) (hfv : fv.isRef = true) :
    MetFree l (⟨"jdk/internal/util/Preconditions", "checkFromIndexSize", "(IIILjava/util/function/BiFunction;)I"⟩ : MethodName) (head1 (Jvm.Cond.code (⟨"jdk/internal/util/Preconditions", "checkFromIndexSize", "(IIILjava/util/function/BiFunction;)I"⟩ : MethodName) jdk_41_method_13_code 4 (some .int) :: ws) ({ frames := 0, cells := 0, slots := 0, locals := 0 } : Room)) (fun aX U => aX = #[(.int ia), (.int ic), (.int nn), fv] ∧ Z.Warmed39 U.vm ∧ U.heap = h0) (fun _ _ _ _ _ => True) (fun _ U o U' => ∃ v L, o = .returned v ∧ (Q_pfs Z ia ic nn fv h0 n0) v U'.heap L ∧ FrameEnd U o U' L ({ frames := 0, cells := 0, slots := 0, locals := 0 } : Room).cells ({ frames := 0, cells := 0, slots := 0, locals := 0 } : Room).slots) := by
  refine own_met (Q := (Q_pfs Z ia ic nn fv h0 n0)) (plainFor_of_name (x := (⟨"jdk/internal/util/Preconditions", "checkFromIndexSize", "(IIILjava/util/function/BiFunction;)I"⟩ : MethodName)) pn_3) (fun m => ef_pfs m ia ic nn fv hfv) ?_
  intro p e s m below meth cD s₁ hx hby hml hret hlk hZ hown hnm X0 e0 hs0
  have hown : s.vm.findClass "jdk/internal/util/Preconditions" = some m.cls := hown
  have N0 := Fr.nil n0
  have o1 := (c_orS nn ia).1 (by omega) hi.1
  have o2 := (c_orS (nn ||| ia) ic).1 o1 hi.2.1
  have s1 := c_isub nn ia
  have s2 := rng32 (nn - ia)
  have s3 := rng32 nn
  refine own_st (fr' := (mkF m 1 #[.val (.int ia), .val (.int ic), .val (.int nn), .val fv] [(.int nn)])) (fun t k => XS.iloadN X0.here hx rfl (hb hby d43_0) rfl  k) ?_
  refine own_st (fr' := (mkF m 2 #[.val (.int ia), .val (.int ic), .val (.int nn), .val fv] [(.int ia), (.int nn)])) (fun t k => XS.iloadN X0.here hx rfl (hb hby d43_1) rfl  k) ?_
  refine own_st (fr' := (mkF m 3 #[.val (.int ia), .val (.int ic), .val (.int nn), .val fv] [(.int (nn ||| ia))])) (fun t k => XS.ior X0.here hx rfl (hb hby d43_2) rfl k) ?_
  refine own_st (fr' := (mkF m 4 #[.val (.int ia), .val (.int ic), .val (.int nn), .val fv] [(.int ic), (.int (nn ||| ia))])) (fun t k => XS.iloadN X0.here hx rfl (hb hby d43_3) rfl  k) ?_
  refine own_st (fr' := (mkF m 5 #[.val (.int ia), .val (.int ic), .val (.int nn), .val fv] [(.int ((nn ||| ia) ||| ic))])) (fun t k => XS.ior X0.here hx rfl (hb hby d43_4) rfl k) ?_
  refine own_st (fr' := (mkF m 8 #[.val (.int ia), .val (.int ic), .val (.int nn), .val fv] [])) (fun t k => XS.ifNo X0.here hx rfl (hb hby d43_5) rfl ((if0 _ _).trans (own_flt (x := ((nn ||| ia) ||| ic)) (y := (0 : Int32)) (show ¬ ((nn ||| ia) ||| ic).toInt < 0 from by omega)).1) k) ?_
  refine own_st (fr' := (mkF m 9 #[.val (.int ia), .val (.int ic), .val (.int nn), .val fv] [(.int ic)])) (fun t k => XS.iloadN X0.here hx rfl (hb hby d43_8) rfl  k) ?_
  refine own_st (fr' := (mkF m 10 #[.val (.int ia), .val (.int ic), .val (.int nn), .val fv] [(.int nn), (.int ic)])) (fun t k => XS.iloadN X0.here hx rfl (hb hby d43_9) rfl  k) ?_
  refine own_st (fr' := (mkF m 11 #[.val (.int ia), .val (.int ic), .val (.int nn), .val fv] [(.int ia), (.int nn), (.int ic)])) (fun t k => XS.iloadN X0.here hx rfl (hb hby d43_10) rfl  k) ?_
  refine own_st (fr' := (mkF m 12 #[.val (.int ia), .val (.int ic), .val (.int nn), .val fv] [(.int (nn - ia)), (.int ic)])) (fun t k => XS.isub X0.here hx rfl (hb hby d43_11) rfl k) ?_
  refine own_st (fr' := (mkF m 23 #[.val (.int ia), .val (.int ic), .val (.int nn), .val fv] [])) (fun t k => XS.icmpYes X0.here hx rfl (pc0 := 12) (pc' := 23) rfl (hb hby d43_12) rfl (own_flt (x := (nn - ia)) (y := ic) (show ¬ (nn - ia).toInt < ic.toInt from by omega)).2.2.2 (by decide) (by decide) k) ?_
  refine own_st (fr' := (mkF m 24 #[.val (.int ia), .val (.int ic), .val (.int nn), .val fv] [(.int ia)])) (fun t k => XS.iloadN X0.here hx rfl (hb hby d43_23) rfl  k) ?_
  exact own_retI X0 hx hlk hret (hb hby d43_24) (by decide) (by decide) (⟨rfl, N0, e0⟩)
theorem d42_0 : decode jdk_42_method_157_code 0 = .ok (.iload_n 0, 1) := by decide +kernel
theorem d42_1 : decode jdk_42_method_157_code 1 = .ok (.iload_n 1, 1) := by decide +kernel
theorem d42_2 : decode jdk_42_method_157_code 2 = .ok (.iload_n 2, 1) := by decide +kernel
theorem d42_3 : decode jdk_42_method_157_code 3 = .ok (.getstatic 1053, 3) := by decide +kernel
theorem d42_6 : decode jdk_42_method_157_code 6 = .ok (.invokestatic 1065, 3) := by decide +kernel
theorem d42_9 : decode jdk_42_method_157_code 9 = .ok (.ireturn, 1) := by decide +kernel
theorem ef_sbo (m : MethodId) (ia : Int32) (ic : Int32) (nn : Int32) : entryFrame m #[(.int ia), (.int ic), (.int nn)] 3 = mkF m 0 #[.val (.int ia), .val (.int ic), .val (.int nn)] [] := by first | (simp [entryFrame, mkF, argsToLocals, Value.category, maxLocals]; done) | rfl
def Q_sbo (Z : State) (ia : Int32) (ic : Int32) (nn : Int32) (cz : Int32) (fv : Value) (h0 : Heap) (n0 : Nat) : Option Value → Heap → List Loc → Prop := fun v h L => v = some (.int ia) ∧ Fr n0 L ∧ h = h0
set_option maxRecDepth 65536 in
set_option maxHeartbeats 40000000 in
theorem rm_sbo (l : Launch) (Z : State) (a0 : Array Value) (hw : ∀ d ∈ tables_1, d.before a0 Z = true) (ws : List Jvm.Cond) (ia : Int32) (ic : Int32) (nn : Int32) (cz : Int32) (fv : Value) (h0 : Heap) (n0 : Nat) (Z0 : n0 ≤ h0.size) (hi : 0 ≤ ia.toInt ∧ 0 ≤ ic.toInt ∧ ia.toInt + ic.toInt ≤ nn.toInt) (S_cs : Sta Z h0 "java/lang/String" "COMPACT_STRINGS" "Z" (.int cz)) (S_fm : Sta Z h0 "jdk/internal/util/Preconditions" "SIOOBE_FORMATTER" "Ljava/util/function/BiFunction;" fv) (S_as : Sta Z h0 "java/lang/StringUTF16" "$assertionsDisabled" "Z" (.int (1 : Int32))) (S_hi : Sta Z h0 "java/lang/StringUTF16" "HI_BYTE_SHIFT" "I" (.int (0 : Int32))) (S_lo : Sta Z h0 "java/lang/StringUTF16" "LO_BYTE_SHIFT" "I" (.int (8 : Int32))) (hcz : ¬ cz.toInt = 0) (hfv : fv.isRef = true) :
    MetFree l (⟨"java/lang/String", "checkBoundsOffCount", "(III)I"⟩ : MethodName) (head1 (Jvm.Cond.code (⟨"java/lang/String", "checkBoundsOffCount", "(III)I"⟩ : MethodName) jdk_42_method_157_code 3 (some .int) :: ws) ({ frames := 1, cells := 0, slots := 0, locals := 15 } : Room)) (fun aX U => aX = #[(.int ia), (.int ic), (.int nn)] ∧ Z.Warmed39 U.vm ∧ U.heap = h0) (fun _ _ _ _ _ => True) (fun _ U o U' => ∃ v L, o = .returned v ∧ (Q_sbo Z ia ic nn cz fv h0 n0) v U'.heap L ∧ FrameEnd U o U' L ({ frames := 1, cells := 0, slots := 0, locals := 15 } : Room).cells ({ frames := 1, cells := 0, slots := 0, locals := 15 } : Room).slots) := by
  refine own_met (Q := (Q_sbo Z ia ic nn cz fv h0 n0)) (plainFor_of_name (x := (⟨"java/lang/String", "checkBoundsOffCount", "(III)I"⟩ : MethodName)) pn_2) (fun m => ef_sbo m ia ic nn) ?_
  intro p e s m below meth cD s₁ hx hby hml hret hlk hZ hown hnm X0 e0 hs0
  have hown : s.vm.findClass "java/lang/String" = some m.cls := hown
  have N0 := Fr.nil n0
  refine own_st (fr' := (mkF m 1 #[.val (.int ia), .val (.int ic), .val (.int nn)] [(.int ia)])) (fun t k => XS.iloadN X0.here hx rfl (hb hby d42_0) rfl  k) ?_
  refine own_st (fr' := (mkF m 2 #[.val (.int ia), .val (.int ic), .val (.int nn)] [(.int ic), (.int ia)])) (fun t k => XS.iloadN X0.here hx rfl (hb hby d42_1) rfl  k) ?_
  refine own_st (fr' := (mkF m 3 #[.val (.int ia), .val (.int ic), .val (.int nn)] [(.int nn), (.int ic), (.int ia)])) (fun t k => XS.iloadN X0.here hx rfl (hb hby d42_2) rfl  k) ?_
  obtain ⟨T139, X139, e139, st139⟩ := getS2 X0 hx hZ hown (host := "") (Or.inl (hw _ (List.mem_of_getElem? (i := 54) rfl))) Via.refl e0 S_fm (g := (mkF m 3 #[.val (.int ia), .val (.int ic), .val (.int nn)] [(.int nn), (.int ic), (.int ia)])) rfl (hb hby d42_3)
  refine own_st (fr' := (mkF m 6 #[.val (.int ia), .val (.int ic), .val (.int nn)] [fv, (.int nn), (.int ic), (.int ia)])) st139 ?_
  refine own_callS X139 hx hZ (y := (⟨"jdk/internal/util/Preconditions", "checkFromIndexSize", "(IIILjava/util/function/BiFunction;)I"⟩ : MethodName)) hown (hw _ (List.mem_of_getElem? (i := 174) rfl)) (hw _ (List.mem_of_getElem? (i := 175) rfl)) (hw _ (List.mem_of_getElem? (i := 55) rfl)) (hw _ (List.mem_of_getElem? (i := 176) rfl)) (by decide) (argsL := [(.int ia), (.int ic), (.int nn), fv]) (rest := []) (W := 0) (rm_pfs l Z a0 hw [] ia ic nn fv h0 n0 Z0 hi hfv) e139 (by rw [hml]; rfl) (lenOf pd_15 rfl) rfl (Nat.le_of_eq rfl) (hb hby d42_6) (by decide) (by decide) (by decide) (by decide) ?_
  intro v140 T140 L140 X140 hQ140
  obtain ⟨rfl, Nq140, eq140⟩ := hQ140
  have N140 := Fr.app N0 Nq140
  exact own_retI X140 hx hlk hret (hb hby d42_9) (by decide) (by decide) (⟨rfl, N140, eq140⟩)
theorem pd_16 : parseMethodDescriptor "(III)I" = some ⟨[.int, .int, .int], some .int⟩ := by decide +kernel
theorem d41_0 : decode jdk_52_method_94_code 0 = .ok (.iload_n 0, 1) := by decide +kernel
theorem d41_1 : decode jdk_52_method_94_code 1 = .ok (.iload_n 1, 1) := by decide +kernel
theorem d41_2 : decode jdk_52_method_94_code 2 = .ok (.aload_n 2, 1) := by decide +kernel
theorem d41_3 : decode jdk_52_method_94_code 3 = .ok (.invokestatic 48, 3) := by decide +kernel
theorem d41_6 : decode jdk_52_method_94_code 6 = .ok (.invokestatic 419, 3) := by decide +kernel
theorem d41_9 : decode jdk_52_method_94_code 9 = .ok (.pop, 1) := by decide +kernel
theorem d41_10 : decode jdk_52_method_94_code 10 = .ok (.return_, 1) := by decide +kernel
theorem ef_ubo (m : MethodId) (ia : Int32) (ic : Int32) (b : Addr) : entryFrame m #[(.int ia), (.int ic), (.ref b)] 3 = mkF m 0 #[.val (.int ia), .val (.int ic), .val (.ref b)] [] := by first | (simp [entryFrame, mkF, argsToLocals, Value.category, maxLocals]; done) | rfl
def Q_ubo (Z : State) (ia : Int32) (ic : Int32) (b : Addr) (nb : Int32) (g : Nat → Value) (cz : Int32) (fv : Value) (h0 : Heap) (n0 : Nat) : Option Value → Heap → List Loc → Prop := fun v h L => v = none ∧ Fr n0 L ∧ h = h0
set_option maxRecDepth 65536 in
set_option maxHeartbeats 40000000 in
theorem rm_ubo (l : Launch) (Z : State) (a0 : Array Value) (hw : ∀ d ∈ tables_1, d.before a0 Z = true) (ws : List Jvm.Cond) (ia : Int32) (ic : Int32) (b : Addr) (nb : Int32) (g : Nat → Value) (cz : Int32) (fv : Value) (h0 : Heap) (n0 : Nat) (Z0 : n0 ≤ h0.size) (VB : own_A Z h0 b .byte nb g) (hi : 0 ≤ ia.toInt ∧ 0 ≤ ic.toInt ∧ 2 * (ia.toInt + ic.toInt) ≤ nb.toInt) (S_cs : Sta Z h0 "java/lang/String" "COMPACT_STRINGS" "Z" (.int cz)) (S_fm : Sta Z h0 "jdk/internal/util/Preconditions" "SIOOBE_FORMATTER" "Ljava/util/function/BiFunction;" fv) (S_as : Sta Z h0 "java/lang/StringUTF16" "$assertionsDisabled" "Z" (.int (1 : Int32))) (S_hi : Sta Z h0 "java/lang/StringUTF16" "HI_BYTE_SHIFT" "I" (.int (0 : Int32))) (S_lo : Sta Z h0 "java/lang/StringUTF16" "LO_BYTE_SHIFT" "I" (.int (8 : Int32))) (hcz : ¬ cz.toInt = 0) (hfv : fv.isRef = true) :
    MetFree l (⟨"java/lang/StringUTF16", "checkBoundsOffCount", "(II[B)V"⟩ : MethodName) (head1 (Jvm.Cond.code (⟨"java/lang/StringUTF16", "checkBoundsOffCount", "(II[B)V"⟩ : MethodName) jdk_52_method_94_code 3 none :: ws) ({ frames := 2, cells := 0, slots := 0, locals := 29 } : Room)) (fun aX U => aX = #[(.int ia), (.int ic), (.ref b)] ∧ Z.Warmed39 U.vm ∧ U.heap = h0) (fun _ _ _ _ _ => True) (fun _ U o U' => ∃ v L, o = .returned v ∧ (Q_ubo Z ia ic b nb g cz fv h0 n0) v U'.heap L ∧ FrameEnd U o U' L ({ frames := 2, cells := 0, slots := 0, locals := 29 } : Room).cells ({ frames := 2, cells := 0, slots := 0, locals := 29 } : Room).slots) := by
  refine own_met (Q := (Q_ubo Z ia ic b nb g cz fv h0 n0)) (plainFor_of_name (x := (⟨"java/lang/StringUTF16", "checkBoundsOffCount", "(II[B)V"⟩ : MethodName)) pn_0) (fun m => ef_ubo m ia ic b) ?_
  intro p e s m below meth cD s₁ hx hby hml hret hlk hZ hown hnm X0 e0 hs0
  have hown : s.vm.findClass "java/lang/StringUTF16" = some m.cls := hown
  have N0 := Fr.nil n0
  refine own_st (fr' := (mkF m 1 #[.val (.int ia), .val (.int ic), .val (.ref b)] [(.int ia)])) (fun t k => XS.iloadN X0.here hx rfl (hb hby d41_0) rfl  k) ?_
  refine own_st (fr' := (mkF m 2 #[.val (.int ia), .val (.int ic), .val (.ref b)] [(.int ic), (.int ia)])) (fun t k => XS.iloadN X0.here hx rfl (hb hby d41_1) rfl  k) ?_
  refine own_st (fr' := (mkF m 3 #[.val (.int ia), .val (.int ic), .val (.ref b)] [(.ref b), (.int ic), (.int ia)])) (fun t k => XS.aloadN X0.here hx rfl (hb hby d41_2) rfl rfl k) ?_
  refine own_callS X0 hx hZ (y := (⟨"java/lang/StringUTF16", "length", "([B)I"⟩ : MethodName)) hown (hw _ (List.mem_of_getElem? (i := 105) rfl)) (hw _ (List.mem_of_getElem? (i := 106) rfl)) (hw _ (List.mem_of_getElem? (i := 62) rfl)) (hw _ (List.mem_of_getElem? (i := 107) rfl)) (by decide) (argsL := [(.ref b)]) (rest := [(.int ic), (.int ia)]) (W := 2) (rm_ul l Z a0 hw [] b nb g h0 n0 Z0 VB) e0 (by rw [hml]; rfl) (lenOf pd_12 rfl) rfl (Nat.le_of_eq rfl) (hb hby d41_3) (by decide) (by decide) (by decide) (by decide) ?_
  intro v141 T141 L141 X141 hQ141
  obtain ⟨⟨zl, rfl, hzl⟩, Nq141, eq141⟩ := hQ141
  have N141 := Fr.app N0 Nq141
  refine own_callS X141 hx hZ (y := (⟨"java/lang/String", "checkBoundsOffCount", "(III)I"⟩ : MethodName)) hown (hw _ (List.mem_of_getElem? (i := 171) rfl)) (hw _ (List.mem_of_getElem? (i := 172) rfl)) (hw _ (List.mem_of_getElem? (i := 11) rfl)) (hw _ (List.mem_of_getElem? (i := 173) rfl)) (by decide) (argsL := [(.int ia), (.int ic), (.int zl)]) (rest := []) (W := 0) (rm_sbo l Z a0 hw [] ia ic zl cz fv h0 n0 Z0 ⟨hi.1, hi.2.1, by omega⟩ S_cs S_fm S_as S_hi S_lo hcz hfv) eq141 (by rw [hml]; rfl) (lenOf pd_16 rfl) rfl (Nat.le_of_eq rfl) (hb hby d41_6) (by decide) (by decide) (by decide) (by decide) ?_
  intro v142 T142 L142 X142 hQ142
  obtain ⟨rfl, Nq142, eq142⟩ := hQ142
  have N142 := Fr.app N141 Nq142
  refine own_st (fr' := (mkF m 10 #[.val (.int ia), .val (.int ic), .val (.ref b)] [])) (fun t k => XS.pop X142.here hx rfl (hb hby d41_9) rfl rfl k) ?_
  exact own_retV X142 hx hlk hret (hb hby d41_10) (by decide) (by decide) (⟨rfl, N142, eq142⟩)
def own_sh (cs : Nat → Int32) (k i : Nat) : Int32 := cs (k + i)
theorem pd_17 : parseMethodDescriptor "(II[B)V" = some ⟨[.int, .int, (.array .byte)], none⟩ := by decide +kernel
theorem d40_0 : decode jdk_52_method_22_code 0 = .ok (.iload_n 1, 1) := by decide +kernel
theorem d40_1 : decode jdk_52_method_22_code 1 = .ok (.iload 4, 2) := by decide +kernel
theorem d40_3 : decode jdk_52_method_22_code 3 = .ok (.aload_n 0, 1) := by decide +kernel
theorem d40_4 : decode jdk_52_method_22_code 4 = .ok (.invokestatic 173, 3) := by decide +kernel
theorem d40_7 : decode jdk_52_method_22_code 7 = .ok (.iconst 0, 1) := by decide +kernel
theorem d40_8 : decode jdk_52_method_22_code 8 = .ok (.istore 5, 2) := by decide +kernel
theorem d40_10 : decode jdk_52_method_22_code 10 = .ok (.iload 5, 2) := by decide +kernel
theorem d40_12 : decode jdk_52_method_22_code 12 = .ok (.iload 4, 2) := by decide +kernel
theorem d40_14 : decode jdk_52_method_22_code 14 = .ok (.if_icmp .ge 39, 3) := by decide +kernel
theorem d40_17 : decode jdk_52_method_22_code 17 = .ok (.aload_n 0, 1) := by decide +kernel
theorem d40_18 : decode jdk_52_method_22_code 18 = .ok (.iload_n 1, 1) := by decide +kernel
theorem d40_19 : decode jdk_52_method_22_code 19 = .ok (.invokestatic 71, 3) := by decide +kernel
theorem d40_22 : decode jdk_52_method_22_code 22 = .ok (.istore 6, 2) := by decide +kernel
theorem d40_24 : decode jdk_52_method_22_code 24 = .ok (.iload 6, 2) := by decide +kernel
theorem d40_26 : decode jdk_52_method_22_code 26 = .ok (.sipush 255, 3) := by decide +kernel
theorem d40_29 : decode jdk_52_method_22_code 29 = .ok (.if_icmp .le 6, 3) := by decide +kernel
theorem d40_32 : decode jdk_52_method_22_code 32 = .ok (.iload 5, 2) := by decide +kernel
theorem d40_34 : decode jdk_52_method_22_code 34 = .ok (.ireturn, 1) := by decide +kernel
theorem d40_35 : decode jdk_52_method_22_code 35 = .ok (.aload_n 2, 1) := by decide +kernel
theorem d40_36 : decode jdk_52_method_22_code 36 = .ok (.iload_n 3, 1) := by decide +kernel
theorem d40_37 : decode jdk_52_method_22_code 37 = .ok (.iload 6, 2) := by decide +kernel
theorem d40_39 : decode jdk_52_method_22_code 39 = .ok (.i2b, 1) := by decide +kernel
theorem d40_40 : decode jdk_52_method_22_code 40 = .ok (.bastore, 1) := by decide +kernel
theorem d40_41 : decode jdk_52_method_22_code 41 = .ok (.iinc 1 1, 3) := by decide +kernel
theorem d40_44 : decode jdk_52_method_22_code 44 = .ok (.iinc 3 1, 3) := by decide +kernel
theorem d40_47 : decode jdk_52_method_22_code 47 = .ok (.iinc 5 1, 3) := by decide +kernel
theorem d40_50 : decode jdk_52_method_22_code 50 = .ok (.goto (-40), 3) := by decide +kernel
theorem d40_53 : decode jdk_52_method_22_code 53 = .ok (.iload 4, 2) := by decide +kernel
theorem d40_55 : decode jdk_52_method_22_code 55 = .ok (.ireturn, 1) := by decide +kernel
theorem ef_bloop (m : MethodId) (b : Addr) (ia : Int32) (q : Int32) (da : Addr) : entryFrame m #[(.ref b), (.int ia), (.ref da), (.int (0 : Int32)), (.int q)] 7 = mkF m 0 #[.val (.ref b), .val (.int ia), .val (.ref da), .val (.int (0 : Int32)), .val (.int q), .unset, .unset] [] := by first | (simp [entryFrame, mkF, argsToLocals, Value.category, maxLocals]; done) | rfl
def Q_bloop (Z : State) (b : Addr) (nb : Int32) (g : Nat → Value) (mm : Int) (ia : Int32) (q : Int32) (cs : Nat → Int32) (da : Addr) (gd : Nat → Value) (cz : Int32) (fv : Value) (h0 : Heap) (n0 : Nat) : Option Value → Heap → List Loc → Prop := fun v h L => (∃ (kk : Int32) (g' : Nat → Value), v = some (.int kk) ∧ 0 ≤ kk.toInt ∧ kk.toInt ≤ q.toInt ∧ (∀ i : Nat, (i : Int) < kk.toInt → ((own_sh cs ia.toInt.toNat) i).toInt ≤ 255) ∧ (kk.toInt < q.toInt → 255 < ((own_sh cs ia.toInt.toNat) kk.toInt.toNat).toInt) ∧ own_A Z h da .byte q g' ∧ ∀ i : Nat, (i : Int) < kk.toInt → g' i = .int (nar .byte (((own_sh cs ia.toInt.toNat) i).toInt8.toInt32))) ∧ Fr n0 L ∧ Keep h0 h [da]
set_option maxRecDepth 65536 in
set_option maxHeartbeats 40000000 in
theorem rm_bloop (l : Launch) (Z : State) (a0 : Array Value) (hw : ∀ d ∈ tables_1, d.before a0 Z = true) (ws : List Jvm.Cond) (b : Addr) (nb : Int32) (g : Nat → Value) (mm : Int) (ia : Int32) (q : Int32) (cs : Nat → Int32) (da : Addr) (gd : Nat → Value) (cz : Int32) (fv : Value) (h0 : Heap) (n0 : Nat) (Z0 : n0 ≤ h0.size) (VB : own_A Z h0 b .byte nb g) (H16 : own_S16 g mm cs) (hmm : nb.toInt = 2 * mm ∧ mm ≤ 5) (hia : 0 ≤ ia.toInt ∧ 0 ≤ q.toInt ∧ ia.toInt + q.toInt ≤ mm) (hR : own_Rg cs) (VD : own_A Z h0 da .byte q gd) (hne : b ≠ da) (ge_da : n0 ≤ da) (S_cs : Sta Z h0 "java/lang/String" "COMPACT_STRINGS" "Z" (.int cz)) (S_fm : Sta Z h0 "jdk/internal/util/Preconditions" "SIOOBE_FORMATTER" "Ljava/util/function/BiFunction;" fv) (S_as : Sta Z h0 "java/lang/StringUTF16" "$assertionsDisabled" "Z" (.int (1 : Int32))) (S_hi : Sta Z h0 "java/lang/StringUTF16" "HI_BYTE_SHIFT" "I" (.int (0 : Int32))) (S_lo : Sta Z h0 "java/lang/StringUTF16" "LO_BYTE_SHIFT" "I" (.int (8 : Int32))) (hcz : ¬ cz.toInt = 0) (hfv : fv.isRef = true) :
    MetFree l (⟨"java/lang/StringUTF16", "compress", "([BI[BII)I"⟩ : MethodName) (head1 (Jvm.Cond.code (⟨"java/lang/StringUTF16", "compress", "([BI[BII)I"⟩ : MethodName) jdk_52_method_22_code 7 (some .int) :: ws) ({ frames := 3, cells := 0, slots := 0, locals := 43 } : Room)) (fun aX U => aX = #[(.ref b), (.int ia), (.ref da), (.int (0 : Int32)), (.int q)] ∧ Z.Warmed39 U.vm ∧ U.heap = h0) (fun _ _ _ _ _ => True) (fun _ U o U' => ∃ v L, o = .returned v ∧ (Q_bloop Z b nb g mm ia q cs da gd cz fv h0 n0) v U'.heap L ∧ FrameEnd U o U' L ({ frames := 3, cells := 0, slots := 0, locals := 43 } : Room).cells ({ frames := 3, cells := 0, slots := 0, locals := 43 } : Room).slots) := by
  refine own_met (Q := (Q_bloop Z b nb g mm ia q cs da gd cz fv h0 n0)) (plainFor_of_name (x := (⟨"java/lang/StringUTF16", "compress", "([BI[BII)I"⟩ : MethodName)) pn_0) (fun m => ef_bloop m b ia q da) ?_
  intro p e s m below meth cD s₁ hx hby hml hret hlk hZ hown hnm X0 e0 hs0
  have hown : s.vm.findClass "java/lang/StringUTF16" = some m.cls := hown
  have N0 := Fr.nil n0
  refine own_st (fr' := (mkF m 1 #[.val (.ref b), .val (.int ia), .val (.ref da), .val (.int (0 : Int32)), .val (.int q), .unset, .unset] [(.int ia)])) (fun t k => XS.iloadN X0.here hx rfl (hb hby d40_0) rfl  k) ?_
  refine own_st (fr' := (mkF m 3 #[.val (.ref b), .val (.int ia), .val (.ref da), .val (.int (0 : Int32)), .val (.int q), .unset, .unset] [(.int q), (.int ia)])) (fun t k => XS.iload X0.here hx rfl (hb hby d40_1) rfl  k) ?_
  refine own_st (fr' := (mkF m 4 #[.val (.ref b), .val (.int ia), .val (.ref da), .val (.int (0 : Int32)), .val (.int q), .unset, .unset] [(.ref b), (.int q), (.int ia)])) (fun t k => XS.aloadN X0.here hx rfl (hb hby d40_3) rfl rfl k) ?_
  refine own_callS X0 hx hZ (y := (⟨"java/lang/StringUTF16", "checkBoundsOffCount", "(II[B)V"⟩ : MethodName)) hown (hw _ (List.mem_of_getElem? (i := 168) rfl)) (hw _ (List.mem_of_getElem? (i := 169) rfl)) (hw _ (List.mem_of_getElem? (i := 62) rfl)) (hw _ (List.mem_of_getElem? (i := 170) rfl)) (by decide) (argsL := [(.int ia), (.int q), (.ref b)]) (rest := []) (W := 0) (rm_ubo l Z a0 hw [] ia q b nb g cz fv h0 n0 Z0 VB ⟨hia.1, hia.2.1, by omega⟩ S_cs S_fm S_as S_hi S_lo hcz hfv) e0 (by rw [hml]; rfl) (lenOf pd_17 rfl) rfl (Nat.le_of_eq rfl) (hb hby d40_4) (by decide) (by decide) (by decide) (by decide) ?_
  intro v143 T143 L143 X143 hQ143
  obtain ⟨rfl, Nq143, eq143⟩ := hQ143
  have N143 := Fr.app N0 Nq143
  refine own_st (fr' := (mkF m 8 #[.val (.ref b), .val (.int ia), .val (.ref da), .val (.int (0 : Int32)), .val (.int q), .unset, .unset] [(.int (0 : Int32))])) (fun t k => XS.iconst X143.here hx rfl (hb hby d40_7) k) ?_
  refine own_st (fr' := (mkF m 10 #[.val (.ref b), .val (.int ia), .val (.ref da), .val (.int (0 : Int32)), .val (.int q), .val (.int (0 : Int32)), .unset] [])) (fun t k => XS.istore X143.here hx rfl (hb hby d40_8) rfl  (l' := #[.val (.ref b), .val (.int ia), .val (.ref da), .val (.int (0 : Int32)), .val (.int q), .val (.int (0 : Int32)), .unset]) rfl k) ?_
  suffices LP144 : ∀ (k : Nat) (T : State) (hh : Heap) (LL : List Loc) (i : Int32) (oi : Int32) (s6 : Slot) (gg : Nat → Value), (Stand p l e ({ frames := 3, cells := 0, slots := 0, locals := 43 } : Room) s m #[(.ref b), (.int ia), (.ref da), (.int (0 : Int32)), (.int q)] below meth cD T LL (0 + 0) (0 + 0)) → (T.heap = hh) → (Fr n0 LL) → (s6 = .unset ∨ ∃ z : Int32, s6 = .val (.int z)) → (i.toInt + k = q.toInt) → (0 ≤ i.toInt) → (oi.toInt = ia.toInt + i.toInt) → (∀ j : Nat, (j : Int) < i.toInt → ((own_sh cs ia.toInt.toNat) j).toInt ≤ 255) → (own_A Z hh b .byte nb g) → (own_A Z hh da .byte q gg) → (∀ j : Nat, (j : Int) < i.toInt → gg j = .int (nar .byte (((own_sh cs ia.toInt.toNat) j).toInt8.toInt32))) → (Keep h0 hh [da]) → (Sta Z hh "java/lang/String" "COMPACT_STRINGS" "Z" (.int cz)) → (Sta Z hh "jdk/internal/util/Preconditions" "SIOOBE_FORMATTER" "Ljava/util/function/BiFunction;" fv) → (Sta Z hh "java/lang/StringUTF16" "$assertionsDisabled" "Z" (.int (1 : Int32))) → (Sta Z hh "java/lang/StringUTF16" "HI_BYTE_SHIFT" "I" (.int (0 : Int32))) → (Sta Z hh "java/lang/StringUTF16" "LO_BYTE_SHIFT" "I" (.int (8 : Int32))) → Go p e below (.plain s) ({ frames := 3, cells := 0, slots := 0, locals := 43 } : Room).cells ({ frames := 3, cells := 0, slots := 0, locals := 43 } : Room).slots (Q_bloop Z b nb g mm ia q cs da gd cz fv h0 n0) T (mkF m 10 #[.val (.ref b), .val (.int oi), .val (.ref da), .val (.int i), .val (.int q), .val (.int i), s6] []) by
    exact LP144 q.toInt.toNat _ _ _ 0 ia _ gd X143 eq143 N143 (Or.inl rfl) (by show (0 : Int) + _ = _; omega) (by decide) (by show _ = _ + (0 : Int); omega) (fun j hj => absurd hj (by show ¬ (j : Int) < 0; omega)) VB VD (fun j hj => absurd hj (by show ¬ (j : Int) < 0; omega)) (Keep.refl h0 [da]) S_cs S_fm S_as S_hi S_lo
  intro k
  induction k with
  | zero =>
    intro T hh LL i oi s6 gg X eT NL hs6 hk hi hoi Hc VB VD Hg KK S_cs S_fm S_as S_hi S_lo
    refine own_st (fr' := (mkF m 12 #[.val (.ref b), .val (.int oi), .val (.ref da), .val (.int i), .val (.int q), .val (.int i), s6] [(.int i)])) (fun t k => XS.iload X.here hx rfl (hb hby d40_10) rfl  k) ?_
    refine own_st (fr' := (mkF m 14 #[.val (.ref b), .val (.int oi), .val (.ref da), .val (.int i), .val (.int q), .val (.int i), s6] [(.int q), (.int i)])) (fun t k => XS.iload X.here hx rfl (hb hby d40_12) rfl  k) ?_
    refine own_st (fr' := (mkF m 53 #[.val (.ref b), .val (.int oi), .val (.ref da), .val (.int i), .val (.int q), .val (.int i), s6] [])) (fun t k => XS.icmpYes X.here hx rfl (pc0 := 14) (pc' := 53) rfl (hb hby d40_14) rfl (own_flt (x := i) (y := q) (show ¬ i.toInt < q.toInt from by omega)).2.1 (by decide) (by decide) k) ?_
    refine own_st (fr' := (mkF m 55 #[.val (.ref b), .val (.int oi), .val (.ref da), .val (.int i), .val (.int q), .val (.int i), s6] [(.int q)])) (fun t k => XS.iload X.here hx rfl (hb hby d40_53) rfl  k) ?_
    exact own_retI X hx hlk hret (hb hby d40_55) (by decide) (by decide) (by rw [eT]; exact ⟨⟨q, gg, rfl, by omega, by omega, fun j hj => Hc j (by omega), fun hj => absurd hj (by omega), VD, fun j hj => Hg j (by omega)⟩, NL, KK⟩)
  | succ k ih =>
    intro T hh LL i oi s6 gg X eT NL hs6 hk hi hoi Hc VB VD Hg KK S_cs S_fm S_as S_hi S_lo
    refine own_st (fr' := (mkF m 12 #[.val (.ref b), .val (.int oi), .val (.ref da), .val (.int i), .val (.int q), .val (.int i), s6] [(.int i)])) (fun t k => XS.iload X.here hx rfl (hb hby d40_10) rfl  k) ?_
    refine own_st (fr' := (mkF m 14 #[.val (.ref b), .val (.int oi), .val (.ref da), .val (.int i), .val (.int q), .val (.int i), s6] [(.int q), (.int i)])) (fun t k => XS.iload X.here hx rfl (hb hby d40_12) rfl  k) ?_
    refine own_st (fr' := (mkF m 17 #[.val (.ref b), .val (.int oi), .val (.ref da), .val (.int i), .val (.int q), .val (.int i), s6] [])) (fun t k => XS.icmpNo X.here hx rfl (hb hby d40_14) rfl (own_tlt (x := i) (y := q) (show i.toInt < q.toInt from by omega)).2.1 k) ?_
    refine own_st (fr' := (mkF m 18 #[.val (.ref b), .val (.int oi), .val (.ref da), .val (.int i), .val (.int q), .val (.int i), s6] [(.ref b)])) (fun t k => XS.aloadN X.here hx rfl (hb hby d40_17) rfl rfl k) ?_
    refine own_st (fr' := (mkF m 19 #[.val (.ref b), .val (.int oi), .val (.ref da), .val (.int i), .val (.int q), .val (.int i), s6] [(.int oi), (.ref b)])) (fun t k => XS.iloadN X.here hx rfl (hb hby d40_18) rfl  k) ?_
    have eoi : oi.toInt.toNat = ia.toInt.toNat + i.toInt.toNat := by omega
    have rci : 0 ≤ ((own_sh cs ia.toInt.toNat) i.toInt.toNat).toInt ∧ ((own_sh cs ia.toInt.toNat) i.toInt.toNat).toInt ≤ 65535 := hR _
    refine own_callS X hx hZ (y := (⟨"java/lang/StringUTF16", "getChar", "([BI)C"⟩ : MethodName)) hown (hw _ (List.mem_of_getElem? (i := 83) rfl)) (hw _ (List.mem_of_getElem? (i := 84) rfl)) (hw _ (List.mem_of_getElem? (i := 62) rfl)) (hw _ (List.mem_of_getElem? (i := 85) rfl)) (by decide) (argsL := [(.ref b), (.int oi)]) (rest := []) (W := 0) (rm_getc l Z a0 hw [] b nb g oi ((own_sh cs ia.toInt.toNat) i.toInt.toNat) cz fv hh n0 (Nat.le_trans Z0 KK.1) VB ⟨by omega, by omega, by omega⟩ rci (by rw [eoi]; exact H16 _ (by omega)) S_cs S_fm S_as S_hi S_lo hcz hfv) eT (by rw [hml]; rfl) (lenOf pd_5 rfl) rfl (Nat.le_of_eq rfl) (hb hby d40_19) (by decide) (by decide) (by decide) (by decide) ?_
    intro v145 T145 L145 X145 hQ145
    obtain ⟨rfl, Nq145, eq145⟩ := hQ145
    have N145 := Fr.app NL Nq145
    refine own_st (fr' := (mkF m 24 #[.val (.ref b), .val (.int oi), .val (.ref da), .val (.int i), .val (.int q), .val (.int i), .val (.int ((own_sh cs ia.toInt.toNat) i.toInt.toNat))] [])) (fun t k => XS.istore X145.here hx rfl (hb hby d40_22) rfl  (l' := #[.val (.ref b), .val (.int oi), .val (.ref da), .val (.int i), .val (.int q), .val (.int i), .val (.int ((own_sh cs ia.toInt.toNat) i.toInt.toNat))]) (by rcases hs6 with rfl | ⟨_, rfl⟩ <;> rfl) k) ?_
    refine own_st (fr' := (mkF m 26 #[.val (.ref b), .val (.int oi), .val (.ref da), .val (.int i), .val (.int q), .val (.int i), .val (.int ((own_sh cs ia.toInt.toNat) i.toInt.toNat))] [(.int ((own_sh cs ia.toInt.toNat) i.toInt.toNat))])) (fun t k => XS.iload X145.here hx rfl (hb hby d40_24) rfl  k) ?_
    refine own_st (fr' := (mkF m 29 #[.val (.ref b), .val (.int oi), .val (.ref da), .val (.int i), .val (.int q), .val (.int i), .val (.int ((own_sh cs ia.toInt.toNat) i.toInt.toNat))] [(.int (255 : Int32)), (.int ((own_sh cs ia.toInt.toNat) i.toInt.toNat))])) (fun t k => XS.sipush X145.here hx rfl (hb hby d40_26) k) ?_
    by_cases hbig : 255 < ((own_sh cs ia.toInt.toNat) i.toInt.toNat).toInt
    · refine own_st (fr' := (mkF m 32 #[.val (.ref b), .val (.int oi), .val (.ref da), .val (.int i), .val (.int q), .val (.int i), .val (.int ((own_sh cs ia.toInt.toNat) i.toInt.toNat))] [])) (fun t k => XS.icmpNo X145.here hx rfl (hb hby d40_29) rfl (own_tlt (x := (255 : Int32)) (y := ((own_sh cs ia.toInt.toNat) i.toInt.toNat)) hbig).2.2.2 k) ?_
      refine own_st (fr' := (mkF m 34 #[.val (.ref b), .val (.int oi), .val (.ref da), .val (.int i), .val (.int q), .val (.int i), .val (.int ((own_sh cs ia.toInt.toNat) i.toInt.toNat))] [(.int i)])) (fun t k => XS.iload X145.here hx rfl (hb hby d40_32) rfl  k) ?_
      exact own_retI X145 hx hlk hret (hb hby d40_34) (by decide) (by decide) (by rw [eq145]; exact ⟨⟨i, gg, rfl, hi, by omega, Hc, fun _ => hbig, VD, Hg⟩, N145, KK⟩)
    · refine own_st (fr' := (mkF m 35 #[.val (.ref b), .val (.int oi), .val (.ref da), .val (.int i), .val (.int q), .val (.int i), .val (.int ((own_sh cs ia.toInt.toNat) i.toInt.toNat))] [])) (fun t k => XS.icmpYes X145.here hx rfl (pc0 := 29) (pc' := 35) rfl (hb hby d40_29) rfl (own_flt (x := (255 : Int32)) (y := ((own_sh cs ia.toInt.toNat) i.toInt.toNat)) hbig).2.2.2 (by decide) (by decide) k) ?_
      refine own_st (fr' := (mkF m 36 #[.val (.ref b), .val (.int oi), .val (.ref da), .val (.int i), .val (.int q), .val (.int i), .val (.int ((own_sh cs ia.toInt.toNat) i.toInt.toNat))] [(.ref da)])) (fun t k => XS.aloadN X145.here hx rfl (hb hby d40_35) rfl rfl k) ?_
      refine own_st (fr' := (mkF m 37 #[.val (.ref b), .val (.int oi), .val (.ref da), .val (.int i), .val (.int q), .val (.int i), .val (.int ((own_sh cs ia.toInt.toNat) i.toInt.toNat))] [(.int i), (.ref da)])) (fun t k => XS.iloadN X145.here hx rfl (hb hby d40_36) rfl  k) ?_
      refine own_st (fr' := (mkF m 39 #[.val (.ref b), .val (.int oi), .val (.ref da), .val (.int i), .val (.int q), .val (.int i), .val (.int ((own_sh cs ia.toInt.toNat) i.toInt.toNat))] [(.int ((own_sh cs ia.toInt.toNat) i.toInt.toNat)), (.int i), (.ref da)])) (fun t k => XS.iload X145.here hx rfl (hb hby d40_37) rfl  k) ?_
      refine own_st (fr' := (mkF m 40 #[.val (.ref b), .val (.int oi), .val (.ref da), .val (.int i), .val (.int q), .val (.int i), .val (.int ((own_sh cs ia.toInt.toNat) i.toInt.toNat))] [(.int (((own_sh cs ia.toInt.toNat) i.toInt.toNat).toInt8.toInt32)), (.int i), (.ref da)])) (fun t k => XS.i2b X145.here hx rfl (hb hby d40_39) rfl k) ?_
      have a1 := own_add1 (i := i) hi (by omega)
      have a2 := own_add1 (i := oi) (by omega) (by omega)
      refine own_bastore X145 hx hZ eq145 VD (by omega) (by omega) (hb hby d40_40) ?_
      intro T146 h146 X146 e146 W146 V146
      have N146 := Fr.snoc X146 N145 ge_da
      refine own_st (fr' := (mkF m 44 #[.val (.ref b), .val (.int (oi + (1 : Int32))), .val (.ref da), .val (.int i), .val (.int q), .val (.int i), .val (.int ((own_sh cs ia.toInt.toNat) i.toInt.toNat))] [])) (fun t k => XS.iinc X146.here hx rfl (hb hby d40_41) rfl (l' := #[.val (.ref b), .val (.int (oi + (1 : Int32))), .val (.ref da), .val (.int i), .val (.int q), .val (.int i), .val (.int ((own_sh cs ia.toInt.toNat) i.toInt.toNat))]) rfl k) ?_
      refine own_st (fr' := (mkF m 47 #[.val (.ref b), .val (.int (oi + (1 : Int32))), .val (.ref da), .val (.int (i + (1 : Int32))), .val (.int q), .val (.int i), .val (.int ((own_sh cs ia.toInt.toNat) i.toInt.toNat))] [])) (fun t k => XS.iinc X146.here hx rfl (hb hby d40_44) rfl (l' := #[.val (.ref b), .val (.int (oi + (1 : Int32))), .val (.ref da), .val (.int (i + (1 : Int32))), .val (.int q), .val (.int i), .val (.int ((own_sh cs ia.toInt.toNat) i.toInt.toNat))]) rfl k) ?_
      refine own_st (fr' := (mkF m 50 #[.val (.ref b), .val (.int (oi + (1 : Int32))), .val (.ref da), .val (.int (i + (1 : Int32))), .val (.int q), .val (.int (i + (1 : Int32))), .val (.int ((own_sh cs ia.toInt.toNat) i.toInt.toNat))] [])) (fun t k => XS.iinc X146.here hx rfl (hb hby d40_47) rfl (l' := #[.val (.ref b), .val (.int (oi + (1 : Int32))), .val (.ref da), .val (.int (i + (1 : Int32))), .val (.int q), .val (.int (i + (1 : Int32))), .val (.int ((own_sh cs ia.toInt.toNat) i.toInt.toNat))]) rfl k) ?_
      refine own_st (fr' := (mkF m 10 #[.val (.ref b), .val (.int (oi + (1 : Int32))), .val (.ref da), .val (.int (i + (1 : Int32))), .val (.int q), .val (.int (i + (1 : Int32))), .val (.int ((own_sh cs ia.toInt.toNat) i.toInt.toNat))] [])) (fun t k => XS.goto X146.here hx rfl (pc0 := 50) (pc' := 10) rfl (hb hby d40_50) (by decide) (by decide) k) ?_
      refine ih _ _ _ (i + 1) (oi + 1) _ _ X146 e146 N146 (Or.inr ⟨_, rfl⟩) (by omega) (by omega) (by omega) (fun j hj => ?_) (VB.other W146 hne) V146 (fun j hj => ?_) (Keep.wr KK W146 (Or.inl (List.mem_of_getElem? (i := 0) rfl))) (Sta.wr W146 S_cs) (Sta.wr W146 S_fm) (Sta.wr W146 S_as) (Sta.wr W146 S_hi) (Sta.wr W146 S_lo)
      · by_cases hj2 : (j : Int) < i.toInt
        · exact Hc j hj2
        · have e1 : j = i.toInt.toNat := by omega
          subst e1; omega
      · by_cases hj2 : (j : Int) < i.toInt
        · have e1 : ¬ j = i.toInt.toNat := by omega
          show (if j = i.toInt.toNat then _ else _) = _
          rw [if_neg e1]; exact Hg j hj2
        · have e1 : j = i.toInt.toNat := by omega
          show (if j = i.toInt.toNat then _ else _) = _
          rw [if_pos e1, e1]
theorem d36_0 : decode jdk_29_method_69_code 0 = .ok (.iload_n 0, 1) := by decide +kernel
theorem d36_1 : decode jdk_29_method_69_code 1 = .ok (.iload_n 1, 1) := by decide +kernel
theorem d36_2 : decode jdk_29_method_69_code 2 = .ok (.if_icmp .gt 7, 3) := by decide +kernel
theorem d36_5 : decode jdk_29_method_69_code 5 = .ok (.iload_n 0, 1) := by decide +kernel
theorem d36_6 : decode jdk_29_method_69_code 6 = .ok (.goto 4, 3) := by decide +kernel
theorem d36_9 : decode jdk_29_method_69_code 9 = .ok (.iload_n 1, 1) := by decide +kernel
theorem d36_10 : decode jdk_29_method_69_code 10 = .ok (.ireturn, 1) := by decide +kernel
theorem pf_36 : plainFor (⟨"java/lang/Math", "min", "(II)I"⟩ : MethodName) = true := by decide +kernel
theorem ef_min (m : MethodId) (q1 : Int32) (q2 : Int32) : entryFrame m #[(.int q1), (.int q2)] 2 = mkF m 0 #[.val (.int q1), .val (.int q2)] [] := by first | (simp [entryFrame, mkF, argsToLocals, Value.category, maxLocals]; done) | rfl
def Q_min (Z : State) (q1 : Int32) (q2 : Int32) (h0 : Heap) (n0 : Nat) : Option Value → Heap → List Loc → Prop := fun v h L => (∃ z : Int32, v = some (.int z) ∧ (z.toInt ≤ q1.toInt ∧ z.toInt ≤ q2.toInt ∧ (z.toInt = q1.toInt ∨ z.toInt = q2.toInt))) ∧ Fr n0 L ∧ h = h0
set_option maxRecDepth 65536 in
set_option maxHeartbeats 40000000 in
theorem rm_min (l : Launch) (Z : State) (a0 : Array Value) (hw : ∀ d ∈ tables_1, d.before a0 Z = true) (ws : List Jvm.Cond) (q1 : Int32) (q2 : Int32) (h0 : Heap) (n0 : Nat) (Z0 : n0 ≤ h0.size)  :
    MetFree l (⟨"java/lang/Math", "min", "(II)I"⟩ : MethodName) (head1 (Jvm.Cond.code (⟨"java/lang/Math", "min", "(II)I"⟩ : MethodName) jdk_29_method_69_code 2 (some .int) :: ws) ({ frames := 0, cells := 0, slots := 0, locals := 0 } : Room)) (fun aX U => aX = #[(.int q1), (.int q2)] ∧ Z.Warmed39 U.vm ∧ U.heap = h0) (fun _ _ _ _ _ => True) (fun _ U o U' => ∃ v L, o = .returned v ∧ (Q_min Z q1 q2 h0 n0) v U'.heap L ∧ FrameEnd U o U' L ({ frames := 0, cells := 0, slots := 0, locals := 0 } : Room).cells ({ frames := 0, cells := 0, slots := 0, locals := 0 } : Room).slots) := by
  refine own_met (Q := (Q_min Z q1 q2 h0 n0)) pf_36 (fun m => ef_min m q1 q2) ?_
  intro p e s m below meth cD s₁ hx hby hml hret hlk hZ hown hnm X0 e0 hs0
  have hown : s.vm.findClass "java/lang/Math" = some m.cls := hown
  have N0 := Fr.nil n0
  refine own_st (fr' := (mkF m 1 #[.val (.int q1), .val (.int q2)] [(.int q1)])) (fun t k => XS.iloadN X0.here hx rfl (hb hby d36_0) rfl  k) ?_
  refine own_st (fr' := (mkF m 2 #[.val (.int q1), .val (.int q2)] [(.int q2), (.int q1)])) (fun t k => XS.iloadN X0.here hx rfl (hb hby d36_1) rfl  k) ?_
  by_cases hc147 : q2.toInt < q1.toInt
  · refine own_st (fr' := (mkF m 9 #[.val (.int q1), .val (.int q2)] [])) (fun t k => XS.icmpYes X0.here hx rfl (pc0 := 2) (pc' := 9) rfl (hb hby d36_2) rfl (own_tlt (x := q2) (y := q1) hc147).2.2.1 (by decide) (by decide) k) ?_
    refine own_st (fr' := (mkF m 10 #[.val (.int q1), .val (.int q2)] [(.int q2)])) (fun t k => XS.iloadN X0.here hx rfl (hb hby d36_9) rfl  k) ?_
    exact own_retI X0 hx hlk hret (hb hby d36_10) (by decide) (by decide) (⟨⟨_, rfl, by omega⟩, N0, e0⟩)
  · refine own_st (fr' := (mkF m 5 #[.val (.int q1), .val (.int q2)] [])) (fun t k => XS.icmpNo X0.here hx rfl (hb hby d36_2) rfl (own_flt (x := q2) (y := q1) hc147).2.2.1 k) ?_
    refine own_st (fr' := (mkF m 6 #[.val (.int q1), .val (.int q2)] [(.int q1)])) (fun t k => XS.iloadN X0.here hx rfl (hb hby d36_5) rfl  k) ?_
    refine own_st (fr' := (mkF m 10 #[.val (.int q1), .val (.int q2)] [(.int q1)])) (fun t k => XS.goto X0.here hx rfl (pc0 := 6) (pc' := 10) rfl (hb hby d36_6) (by decide) (by decide) k) ?_
    exact own_retI X0 hx hlk hret (hb hby d36_10) (by decide) (by decide) (⟨⟨_, rfl, by omega⟩, N0, e0⟩)
theorem d35_0 : decode jdk_65_method_131_code 0 = .ok (.iload_n 1, 1) := by decide +kernel
theorem d35_1 : decode jdk_65_method_131_code 1 = .ok (.iload_n 0, 1) := by decide +kernel
theorem d35_2 : decode jdk_65_method_131_code 2 = .ok (.if_icmp .ge 35, 3) := by decide +kernel
theorem d35_37 : decode jdk_65_method_131_code 37 = .ok (.return_, 1) := by decide +kernel
theorem pn_5 : plainName "java/util/Arrays" = true := by first | (simp [plainName, overriddenIn]; done) | decide +kernel
theorem ef_chk (m : MethodId) (fr : Int32) (to : Int32) : entryFrame m #[(.int fr), (.int to)] 2 = mkF m 0 #[.val (.int fr), .val (.int to)] [] := by first | (simp [entryFrame, mkF, argsToLocals, Value.category, maxLocals]; done) | rfl
def Q_chk (Z : State) (fr : Int32) (to : Int32) (h0 : Heap) (n0 : Nat) : Option Value → Heap → List Loc → Prop := fun v h L => v = none ∧ Fr n0 L ∧ h = h0
set_option maxRecDepth 65536 in
set_option maxHeartbeats 40000000 in
theorem rm_chk (l : Launch) (Z : State) (a0 : Array Value) (hw : ∀ d ∈ tables_1, d.before a0 Z = true) (ws : List Jvm.Cond) (fr : Int32) (to : Int32) (h0 : Heap) (n0 : Nat) (Z0 : n0 ≤ h0.size) (hft : fr.toInt ≤ to.toInt) :
    MetFree l (⟨"java/util/Arrays", "checkLength", "(II)V"⟩ : MethodName) (head1 (Jvm.Cond.code (⟨"java/util/Arrays", "checkLength", "(II)V"⟩ : MethodName) jdk_65_method_131_code 2 none :: ws) ({ frames := 0, cells := 0, slots := 0, locals := 0 } : Room)) (fun aX U => aX = #[(.int fr), (.int to)] ∧ Z.Warmed39 U.vm ∧ U.heap = h0) (fun _ _ _ _ _ => True) (fun _ U o U' => ∃ v L, o = .returned v ∧ (Q_chk Z fr to h0 n0) v U'.heap L ∧ FrameEnd U o U' L ({ frames := 0, cells := 0, slots := 0, locals := 0 } : Room).cells ({ frames := 0, cells := 0, slots := 0, locals := 0 } : Room).slots) := by
  refine own_met (Q := (Q_chk Z fr to h0 n0)) (plainFor_of_name (x := (⟨"java/util/Arrays", "checkLength", "(II)V"⟩ : MethodName)) pn_5) (fun m => ef_chk m fr to) ?_
  intro p e s m below meth cD s₁ hx hby hml hret hlk hZ hown hnm X0 e0 hs0
  have hown : s.vm.findClass "java/util/Arrays" = some m.cls := hown
  have N0 := Fr.nil n0
  refine own_st (fr' := (mkF m 1 #[.val (.int fr), .val (.int to)] [(.int to)])) (fun t k => XS.iloadN X0.here hx rfl (hb hby d35_0) rfl  k) ?_
  refine own_st (fr' := (mkF m 2 #[.val (.int fr), .val (.int to)] [(.int fr), (.int to)])) (fun t k => XS.iloadN X0.here hx rfl (hb hby d35_1) rfl  k) ?_
  refine own_st (fr' := (mkF m 37 #[.val (.int fr), .val (.int to)] [])) (fun t k => XS.icmpYes X0.here hx rfl (pc0 := 2) (pc' := 37) rfl (hb hby d35_2) rfl (own_flt (x := to) (y := fr) (show ¬ to.toInt < fr.toInt from by omega)).2.1 (by decide) (by decide) k) ?_
  exact own_retV X0 hx hlk hret (hb hby d35_37) (by decide) (by decide) (⟨rfl, N0, e0⟩)
theorem pd_18 : parseMethodDescriptor "(II)I" = some ⟨[.int, .int], some .int⟩ := by decide +kernel
theorem d34_0 : decode jdk_65_method_133_code 0 = .ok (.iload_n 1, 1) := by decide +kernel
theorem d34_1 : decode jdk_65_method_133_code 1 = .ok (.iload_n 2, 1) := by decide +kernel
theorem d34_2 : decode jdk_65_method_133_code 2 = .ok (.invokestatic 343, 3) := by decide +kernel
theorem d34_5 : decode jdk_65_method_133_code 5 = .ok (.iload_n 2, 1) := by decide +kernel
theorem d34_6 : decode jdk_65_method_133_code 6 = .ok (.iload_n 1, 1) := by decide +kernel
theorem d34_7 : decode jdk_65_method_133_code 7 = .ok (.isub, 1) := by decide +kernel
theorem d34_8 : decode jdk_65_method_133_code 8 = .ok (.istore_n 3, 1) := by decide +kernel
theorem d34_9 : decode jdk_65_method_133_code 9 = .ok (.iload_n 3, 1) := by decide +kernel
theorem d34_10 : decode jdk_65_method_133_code 10 = .ok (.newarray .byte, 2) := by decide +kernel
theorem d34_12 : decode jdk_65_method_133_code 12 = .ok (.astore 4, 2) := by decide +kernel
theorem d34_14 : decode jdk_65_method_133_code 14 = .ok (.aload_n 0, 1) := by decide +kernel
theorem d34_15 : decode jdk_65_method_133_code 15 = .ok (.iload_n 1, 1) := by decide +kernel
theorem d34_16 : decode jdk_65_method_133_code 16 = .ok (.aload 4, 2) := by decide +kernel
theorem d34_18 : decode jdk_65_method_133_code 18 = .ok (.iconst 0, 1) := by decide +kernel
theorem d34_19 : decode jdk_65_method_133_code 19 = .ok (.aload_n 0, 1) := by decide +kernel
theorem d34_20 : decode jdk_65_method_133_code 20 = .ok (.arraylength, 1) := by decide +kernel
theorem d34_21 : decode jdk_65_method_133_code 21 = .ok (.iload_n 1, 1) := by decide +kernel
theorem d34_22 : decode jdk_65_method_133_code 22 = .ok (.isub, 1) := by decide +kernel
theorem d34_23 : decode jdk_65_method_133_code 23 = .ok (.iload_n 3, 1) := by decide +kernel
theorem d34_24 : decode jdk_65_method_133_code 24 = .ok (.invokestatic 304, 3) := by decide +kernel
theorem d34_27 : decode jdk_65_method_133_code 27 = .ok (.invokestatic 150, 3) := by decide +kernel
theorem d34_30 : decode jdk_65_method_133_code 30 = .ok (.aload 4, 2) := by decide +kernel
theorem d34_32 : decode jdk_65_method_133_code 32 = .ok (.areturn, 1) := by decide +kernel
theorem ef_crb (m : MethodId) (a : Addr) (fr : Int32) (to : Int32) : entryFrame m #[(.ref a), (.int fr), (.int to)] 5 = mkF m 0 #[.val (.ref a), .val (.int fr), .val (.int to), .unset, .unset] [] := by first | (simp [entryFrame, mkF, argsToLocals, Value.category, maxLocals]; done) | rfl
def Q_crb (Z : State) (a : Addr) (fr : Int32) (to : Int32) (NN : Int32) (f : Nat → Value) (h0 : Heap) (n0 : Nat) : Option Value → Heap → List Loc → Prop := fun v h L => (∃ (r : Addr) (g : Nat → Value) (nl : Int32), v = some (.ref r) ∧ h0.size ≤ r ∧ nl.toInt = to.toInt - fr.toInt ∧ own_A Z h r .byte nl g ∧ ∀ i : Nat, (i : Int) < to.toInt - fr.toInt → g i = f (fr.toInt.toNat + i)) ∧ Fr n0 L ∧ Keep h0 h []
set_option maxRecDepth 65536 in
set_option maxHeartbeats 40000000 in
theorem rm_crb (l : Launch) (Z : State) (a0 : Array Value) (hw : ∀ d ∈ tables_1, d.before a0 Z = true) (ws : List Jvm.Cond) (a : Addr) (fr : Int32) (to : Int32) (NN : Int32) (f : Nat → Value) (h0 : Heap) (n0 : Nat) (Z0 : n0 ≤ h0.size) (VA : own_A Z h0 a .byte NN f) (hft : 0 ≤ fr.toInt ∧ fr.toInt ≤ to.toInt ∧ to.toInt ≤ NN.toInt) (hN : NN.toInt ≤ 10) :
    MetFree l (⟨"java/util/Arrays", "copyOfRangeByte", "([BII)[B"⟩ : MethodName) (head1 (Jvm.Cond.code (⟨"java/util/Arrays", "copyOfRangeByte", "([BII)[B"⟩ : MethodName) jdk_65_method_133_code 5 (some (.array .byte)) :: ws) ({ frames := 1, cells := 1, slots := 10, locals := 60 } : Room)) (fun aX U => aX = #[(.ref a), (.int fr), (.int to)] ∧ Z.Warmed39 U.vm ∧ U.heap = h0) (fun _ _ _ _ _ => True) (fun _ U o U' => ∃ v L, o = .returned v ∧ (Q_crb Z a fr to NN f h0 n0) v U'.heap L ∧ FrameEnd U o U' L ({ frames := 1, cells := 1, slots := 10, locals := 60 } : Room).cells ({ frames := 1, cells := 1, slots := 10, locals := 60 } : Room).slots) := by
  refine own_met (Q := (Q_crb Z a fr to NN f h0 n0)) (plainFor_of_name (x := (⟨"java/util/Arrays", "copyOfRangeByte", "([BII)[B"⟩ : MethodName)) pn_5) (fun m => ef_crb m a fr to) ?_
  intro p e s m below meth cD s₁ hx hby hml hret hlk hZ hown hnm X0 e0 hs0
  have hown : s.vm.findClass "java/util/Arrays" = some m.cls := hown
  have N0 := Fr.nil n0
  refine own_st (fr' := (mkF m 1 #[.val (.ref a), .val (.int fr), .val (.int to), .unset, .unset] [(.int fr)])) (fun t k => XS.iloadN X0.here hx rfl (hb hby d34_0) rfl  k) ?_
  refine own_st (fr' := (mkF m 2 #[.val (.ref a), .val (.int fr), .val (.int to), .unset, .unset] [(.int to), (.int fr)])) (fun t k => XS.iloadN X0.here hx rfl (hb hby d34_1) rfl  k) ?_
  refine own_callS X0 hx hZ (y := (⟨"java/util/Arrays", "checkLength", "(II)V"⟩ : MethodName)) hown (hw _ (List.mem_of_getElem? (i := 144) rfl)) (hw _ (List.mem_of_getElem? (i := 145) rfl)) (hw _ (List.mem_of_getElem? (i := 139) rfl)) (hw _ (List.mem_of_getElem? (i := 146) rfl)) (by decide) (argsL := [(.int fr), (.int to)]) (rest := []) (W := 0) (rm_chk l Z a0 hw [] fr to h0 n0 Z0 hft.2.1) e0 (by rw [hml]; rfl) (lenOf pd_11 rfl) rfl (Nat.le_of_eq rfl) (hb hby d34_2) (by decide) (by decide) (by decide) (by decide) ?_
  intro v148 T148 L148 X148 hQ148
  obtain ⟨rfl, Nq148, eq148⟩ := hQ148
  have N148 := Fr.app N0 Nq148
  refine own_st (fr' := (mkF m 6 #[.val (.ref a), .val (.int fr), .val (.int to), .unset, .unset] [(.int to)])) (fun t k => XS.iloadN X148.here hx rfl (hb hby d34_5) rfl  k) ?_
  refine own_st (fr' := (mkF m 7 #[.val (.ref a), .val (.int fr), .val (.int to), .unset, .unset] [(.int fr), (.int to)])) (fun t k => XS.iloadN X148.here hx rfl (hb hby d34_6) rfl  k) ?_
  refine own_st (fr' := (mkF m 8 #[.val (.ref a), .val (.int fr), .val (.int to), .unset, .unset] [(.int (to - fr))])) (fun t k => XS.isub X148.here hx rfl (hb hby d34_7) rfl k) ?_
  refine own_st (fr' := (mkF m 9 #[.val (.ref a), .val (.int fr), .val (.int to), .val (.int (to - fr)), .unset] [])) (fun t k => XS.istoreN X148.here hx rfl (hb hby d34_8) rfl  (l' := #[.val (.ref a), .val (.int fr), .val (.int to), .val (.int (to - fr)), .unset]) rfl k) ?_
  have s1 := c_isub to fr
  have s2 := rng32 (to - fr)
  generalize (to - fr) = nl at s1 s2 ⊢
  have hnl : nl.toInt = to.toInt - fr.toInt := by omega
  refine own_st (fr' := (mkF m 10 #[.val (.ref a), .val (.int fr), .val (.int to), .val (.int nl), .unset] [(.int nl)])) (fun t k => XS.iloadN X148.here hx rfl (hb hby d34_9) rfl  k) ?_
  refine own_newarrE X148 hx hZ (hw _ (List.mem_of_getElem? (i := 23) rfl)) eq148 (hb hby d34_10) (by omega) (cap := 10) (by omega) (by decide) (by decide) (by decide) rfl (C := "[B") rfl ?_
  intro T149 h149 b149 g149 X149 e149 E149 VA149 EX149
  have V149 := own_B.new VA149
  have lt149_a : a < b149 := Nat.lt_of_lt_of_eq VA.lt g149.symm
  have ne149_a : a ≠ b149 := Nat.ne_of_lt lt149_a
  have ge_b149 : n0 ≤ b149 := Nat.le_trans Z0 (Nat.le_of_eq g149.symm)
  have sz_b149 : h0.size ≤ b149 := Nat.le_trans (Nat.le_refl _) (Nat.le_of_eq g149.symm)
  refine own_st (fr' := (mkF m 14 #[.val (.ref a), .val (.int fr), .val (.int to), .val (.int nl), .val (.ref b149)] [])) (fun t k => XS.astore X149.here hx rfl (hb hby d34_12) rfl rfl (l' := #[.val (.ref a), .val (.int fr), .val (.int to), .val (.int nl), .val (.ref b149)]) rfl k) ?_
  refine own_st (fr' := (mkF m 15 #[.val (.ref a), .val (.int fr), .val (.int to), .val (.int nl), .val (.ref b149)] [(.ref a)])) (fun t k => XS.aloadN X149.here hx rfl (hb hby d34_14) rfl rfl k) ?_
  refine own_st (fr' := (mkF m 16 #[.val (.ref a), .val (.int fr), .val (.int to), .val (.int nl), .val (.ref b149)] [(.int fr), (.ref a)])) (fun t k => XS.iloadN X149.here hx rfl (hb hby d34_15) rfl  k) ?_
  refine own_st (fr' := (mkF m 18 #[.val (.ref a), .val (.int fr), .val (.int to), .val (.int nl), .val (.ref b149)] [(.ref b149), (.int fr), (.ref a)])) (fun t k => XS.aload X149.here hx rfl (hb hby d34_16) rfl rfl k) ?_
  refine own_st (fr' := (mkF m 19 #[.val (.ref a), .val (.int fr), .val (.int to), .val (.int nl), .val (.ref b149)] [(.int (0 : Int32)), (.ref b149), (.int fr), (.ref a)])) (fun t k => XS.iconst X149.here hx rfl (hb hby d34_18) k) ?_
  refine own_st (fr' := (mkF m 20 #[.val (.ref a), .val (.int fr), .val (.int to), .val (.int nl), .val (.ref b149)] [(.ref a), (.int (0 : Int32)), (.ref b149), (.int fr), (.ref a)])) (fun t k => XS.aloadN X149.here hx rfl (hb hby d34_19) rfl rfl k) ?_
  refine own_alen X149 hx hZ e149 (VA.ext E149) (hb hby d34_20) ?_
  refine own_st (fr' := (mkF m 22 #[.val (.ref a), .val (.int fr), .val (.int to), .val (.int nl), .val (.ref b149)] [(.int fr), (.int NN), (.int (0 : Int32)), (.ref b149), (.int fr), (.ref a)])) (fun t k => XS.iloadN X149.here hx rfl (hb hby d34_21) rfl  k) ?_
  refine own_st (fr' := (mkF m 23 #[.val (.ref a), .val (.int fr), .val (.int to), .val (.int nl), .val (.ref b149)] [(.int (NN - fr)), (.int (0 : Int32)), (.ref b149), (.int fr), (.ref a)])) (fun t k => XS.isub X149.here hx rfl (hb hby d34_22) rfl k) ?_
  refine own_st (fr' := (mkF m 24 #[.val (.ref a), .val (.int fr), .val (.int to), .val (.int nl), .val (.ref b149)] [(.int nl), (.int (NN - fr)), (.int (0 : Int32)), (.ref b149), (.int fr), (.ref a)])) (fun t k => XS.iloadN X149.here hx rfl (hb hby d34_23) rfl  k) ?_
  have s3 := c_isub NN fr
  have s4 := rng32 (NN - fr)
  refine own_callS X149 hx hZ (y := (⟨"java/lang/Math", "min", "(II)I"⟩ : MethodName)) hown (hw _ (List.mem_of_getElem? (i := 147) rfl)) (hw _ (List.mem_of_getElem? (i := 148) rfl)) (hw _ (List.mem_of_getElem? (i := 149) rfl)) (hw _ (List.mem_of_getElem? (i := 150) rfl)) (by decide) (argsL := [(.int (NN - fr)), (.int nl)]) (rest := [(.int (0 : Int32)), (.ref b149), (.int fr), (.ref a)]) (W := 4) (rm_min l Z a0 hw [] (NN - fr) nl h149 n0 (Nat.le_trans Z0 E149.1) ) e149 (by rw [hml]; rfl) (lenOf pd_18 rfl) rfl (Nat.le_of_eq rfl) (hb hby d34_24) (by decide) (by decide) (by decide) (by decide) ?_
  intro v150 T150 L150 X150 hQ150
  obtain ⟨⟨mn, rfl, hmn⟩, Nq150, eq150⟩ := hQ150
  have N150 := Fr.app N148 Nq150
  have hm : mn.toInt = nl.toInt := by omega
  refine own_copy X150 hx hZ hown (hw _ (List.mem_of_getElem? (i := 151) rfl)) (hw _ (List.mem_of_getElem? (i := 154) rfl)) (hw _ (List.mem_of_getElem? (i := 152) rfl)) (hw _ (List.mem_of_getElem? (i := 153) rfl)) eq150 (VA.ext E149) VA149 rfl (by omega) (by decide) (by omega) (by omega) (by show (0 : Int) + _ ≤ _; omega) N150 ge_b149 (by rw [hml]; rfl) (hb hby d34_27) (by decide) (W := 0) (Nat.le_of_eq rfl) (by show 0 + (nativeFrameWords "java/lang/System" "arraycopy" 5 + 11) ≤ 60; decide) ?_
  intro T151 h151 L151 X151 e151 N151 K151 V151
  refine own_st (fr' := (mkF m 32 #[.val (.ref a), .val (.int fr), .val (.int to), .val (.int nl), .val (.ref b149)] [(.ref b149)])) (fun t k => XS.aload X151.here hx rfl (hb hby d34_30) rfl rfl k) ?_
  exact own_retA X151 hx hlk hret rfl rfl (hb hby d34_32) (by decide) (by decide) (by rw [e151]; exact ⟨⟨b149, _, nl, rfl, sz_b149, hnl, V151, fun i hi => by show (if (0 : Nat) ≤ i ∧ i < 0 + mn.toInt.toNat then _ else _) = _; rw [if_pos ⟨by omega, by omega⟩]; rfl⟩, N151, (Keep.trans (Keep.ext (Keep.refl h0 []) E149) K151 (allS (Or.inr sz_b149) all0))⟩)
theorem pd_19 : parseMethodDescriptor "([BII)[B" = some ⟨[(.array .byte), .int, .int], some (.array .byte)⟩ := by decide +kernel
theorem d33_0 : decode jdk_65_method_132_code 0 = .ok (.iload_n 1, 1) := by decide +kernel
theorem d33_1 : decode jdk_65_method_132_code 1 = .ok (.ifCond .ne 9, 3) := by decide +kernel
theorem d33_4 : decode jdk_65_method_132_code 4 = .ok (.iload_n 2, 1) := by decide +kernel
theorem d33_5 : decode jdk_65_method_132_code 5 = .ok (.aload_n 0, 1) := by decide +kernel
theorem d33_6 : decode jdk_65_method_132_code 6 = .ok (.arraylength, 1) := by decide +kernel
theorem d33_7 : decode jdk_65_method_132_code 7 = .ok (.if_icmp .eq 10, 3) := by decide +kernel
theorem d33_10 : decode jdk_65_method_132_code 10 = .ok (.aload_n 0, 1) := by decide +kernel
theorem d33_11 : decode jdk_65_method_132_code 11 = .ok (.iload_n 1, 1) := by decide +kernel
theorem d33_12 : decode jdk_65_method_132_code 12 = .ok (.iload_n 2, 1) := by decide +kernel
theorem d33_13 : decode jdk_65_method_132_code 13 = .ok (.invokestatic 339, 3) := by decide +kernel
theorem d33_16 : decode jdk_65_method_132_code 16 = .ok (.areturn, 1) := by decide +kernel
theorem ef_cr1 (m : MethodId) (a : Addr) (fr : Int32) (to : Int32) : entryFrame m #[(.ref a), (.int fr), (.int to)] 3 = mkF m 0 #[.val (.ref a), .val (.int fr), .val (.int to)] [] := by first | (simp [entryFrame, mkF, argsToLocals, Value.category, maxLocals]; done) | rfl
def Q_cr1 (Z : State) (a : Addr) (fr : Int32) (to : Int32) (NN : Int32) (f : Nat → Value) (h0 : Heap) (n0 : Nat) : Option Value → Heap → List Loc → Prop := fun v h L => (∃ (r : Addr) (g : Nat → Value) (nl : Int32), v = some (.ref r) ∧ h0.size ≤ r ∧ nl.toInt = to.toInt - fr.toInt ∧ own_A Z h r .byte nl g ∧ ∀ i : Nat, (i : Int) < to.toInt - fr.toInt → g i = f (fr.toInt.toNat + i)) ∧ Fr n0 L ∧ Keep h0 h []
set_option maxRecDepth 65536 in
set_option maxHeartbeats 40000000 in
theorem rm_cr1 (l : Launch) (Z : State) (a0 : Array Value) (hw : ∀ d ∈ tables_1, d.before a0 Z = true) (ws : List Jvm.Cond) (a : Addr) (fr : Int32) (to : Int32) (NN : Int32) (f : Nat → Value) (h0 : Heap) (n0 : Nat) (Z0 : n0 ≤ h0.size) (VA : own_A Z h0 a .byte NN f) (hft : 0 ≤ fr.toInt ∧ fr.toInt ≤ to.toInt ∧ to.toInt ≤ NN.toInt) (hN : NN.toInt ≤ 10) (hpr : ¬ fr.toInt = 0 ∨ ¬ to.toInt = NN.toInt) :
    MetFree l (⟨"java/util/Arrays", "copyOfRange", "([BII)[B"⟩ : MethodName) (head1 (Jvm.Cond.code (⟨"java/util/Arrays", "copyOfRange", "([BII)[B"⟩ : MethodName) jdk_65_method_132_code 3 (some (.array .byte)) :: ws) ({ frames := 2, cells := 1, slots := 10, locals := 80 } : Room)) (fun aX U => aX = #[(.ref a), (.int fr), (.int to)] ∧ Z.Warmed39 U.vm ∧ U.heap = h0) (fun _ _ _ _ _ => True) (fun _ U o U' => ∃ v L, o = .returned v ∧ (Q_cr1 Z a fr to NN f h0 n0) v U'.heap L ∧ FrameEnd U o U' L ({ frames := 2, cells := 1, slots := 10, locals := 80 } : Room).cells ({ frames := 2, cells := 1, slots := 10, locals := 80 } : Room).slots) := by
  refine own_met (Q := (Q_cr1 Z a fr to NN f h0 n0)) (plainFor_of_name (x := (⟨"java/util/Arrays", "copyOfRange", "([BII)[B"⟩ : MethodName)) pn_5) (fun m => ef_cr1 m a fr to) ?_
  intro p e s m below meth cD s₁ hx hby hml hret hlk hZ hown hnm X0 e0 hs0
  have hown : s.vm.findClass "java/util/Arrays" = some m.cls := hown
  have N0 := Fr.nil n0
  refine own_st (fr' := (mkF m 1 #[.val (.ref a), .val (.int fr), .val (.int to)] [(.int fr)])) (fun t k => XS.iloadN X0.here hx rfl (hb hby d33_0) rfl  k) ?_
  by_cases hf0 : fr.toInt = 0
  · refine own_st (fr' := (mkF m 4 #[.val (.ref a), .val (.int fr), .val (.int to)] [])) (fun t k => XS.ifNo X0.here hx rfl (hb hby d33_1) rfl ((if0 _ _).trans (own_teq (x := fr) (y := (0 : Int32)) hf0).2) k) ?_
    refine own_st (fr' := (mkF m 5 #[.val (.ref a), .val (.int fr), .val (.int to)] [(.int to)])) (fun t k => XS.iloadN X0.here hx rfl (hb hby d33_4) rfl  k) ?_
    refine own_st (fr' := (mkF m 6 #[.val (.ref a), .val (.int fr), .val (.int to)] [(.ref a), (.int to)])) (fun t k => XS.aloadN X0.here hx rfl (hb hby d33_5) rfl rfl k) ?_
    refine own_alen X0 hx hZ e0 VA (hb hby d33_6) ?_
    refine own_st (fr' := (mkF m 10 #[.val (.ref a), .val (.int fr), .val (.int to)] [])) (fun t k => XS.icmpNo X0.here hx rfl (hb hby d33_7) rfl (own_feq (x := to) (y := NN) (show ¬ to.toInt = NN.toInt from by omega)).1 k) ?_
    refine own_st (fr' := (mkF m 11 #[.val (.ref a), .val (.int fr), .val (.int to)] [(.ref a)])) (fun t k => XS.aloadN X0.here hx rfl (hb hby d33_10) rfl rfl k) ?_
    refine own_st (fr' := (mkF m 12 #[.val (.ref a), .val (.int fr), .val (.int to)] [(.int fr), (.ref a)])) (fun t k => XS.iloadN X0.here hx rfl (hb hby d33_11) rfl  k) ?_
    refine own_st (fr' := (mkF m 13 #[.val (.ref a), .val (.int fr), .val (.int to)] [(.int to), (.int fr), (.ref a)])) (fun t k => XS.iloadN X0.here hx rfl (hb hby d33_12) rfl  k) ?_
    refine own_callS X0 hx hZ (y := (⟨"java/util/Arrays", "copyOfRangeByte", "([BII)[B"⟩ : MethodName)) hown (hw _ (List.mem_of_getElem? (i := 141) rfl)) (hw _ (List.mem_of_getElem? (i := 142) rfl)) (hw _ (List.mem_of_getElem? (i := 139) rfl)) (hw _ (List.mem_of_getElem? (i := 143) rfl)) (by decide) (argsL := [(.ref a), (.int fr), (.int to)]) (rest := []) (W := 0) (rm_crb l Z a0 hw [] a fr to NN f h0 n0 Z0 VA hft hN) e0 (by rw [hml]; rfl) (lenOf pd_19 rfl) rfl (Nat.le_of_eq rfl) (hb hby d33_13) (by decide) (by decide) (by decide) (by decide) ?_
    intro v152 T152 L152 X152 hQ152
    obtain ⟨⟨r, g, nl, rfl, hr, hnl, VR, hg⟩, Nq152, K152⟩ := hQ152
    have N152 := Fr.app N0 Nq152
    exact own_retA X152 hx hlk hret rfl rfl (hb hby d33_16) (by decide) (by decide) (⟨⟨r, g, nl, rfl, hr, hnl, VR, hg⟩, N152, K152⟩)
  · refine own_st (fr' := (mkF m 10 #[.val (.ref a), .val (.int fr), .val (.int to)] [])) (fun t k => XS.ifYes X0.here hx rfl (pc0 := 1) (pc' := 10) rfl (hb hby d33_1) rfl ((if0 _ _).trans (own_feq (x := fr) (y := (0 : Int32)) hf0).2) (by decide) (by decide) k) ?_
    refine own_st (fr' := (mkF m 11 #[.val (.ref a), .val (.int fr), .val (.int to)] [(.ref a)])) (fun t k => XS.aloadN X0.here hx rfl (hb hby d33_10) rfl rfl k) ?_
    refine own_st (fr' := (mkF m 12 #[.val (.ref a), .val (.int fr), .val (.int to)] [(.int fr), (.ref a)])) (fun t k => XS.iloadN X0.here hx rfl (hb hby d33_11) rfl  k) ?_
    refine own_st (fr' := (mkF m 13 #[.val (.ref a), .val (.int fr), .val (.int to)] [(.int to), (.int fr), (.ref a)])) (fun t k => XS.iloadN X0.here hx rfl (hb hby d33_12) rfl  k) ?_
    refine own_callS X0 hx hZ (y := (⟨"java/util/Arrays", "copyOfRangeByte", "([BII)[B"⟩ : MethodName)) hown (hw _ (List.mem_of_getElem? (i := 141) rfl)) (hw _ (List.mem_of_getElem? (i := 142) rfl)) (hw _ (List.mem_of_getElem? (i := 139) rfl)) (hw _ (List.mem_of_getElem? (i := 143) rfl)) (by decide) (argsL := [(.ref a), (.int fr), (.int to)]) (rest := []) (W := 0) (rm_crb l Z a0 hw [] a fr to NN f h0 n0 Z0 VA hft hN) e0 (by rw [hml]; rfl) (lenOf pd_19 rfl) rfl (Nat.le_of_eq rfl) (hb hby d33_13) (by decide) (by decide) (by decide) (by decide) ?_
    intro v153 T153 L153 X153 hQ153
    obtain ⟨⟨r, g, nl, rfl, hr, hnl, VR, hg⟩, Nq153, K153⟩ := hQ153
    have N153 := Fr.app N0 Nq153
    exact own_retA X153 hx hlk hret rfl rfl (hb hby d33_16) (by decide) (by decide) (⟨⟨r, g, nl, rfl, hr, hnl, VR, hg⟩, N153, K153⟩)
theorem d37_0 : decode jdk_42_method_151_code 0 = .ok (.aload_n 0, 1) := by decide +kernel
theorem d37_1 : decode jdk_42_method_151_code 1 = .ok (.invokespecial 1, 3) := by decide +kernel
theorem d37_4 : decode jdk_42_method_151_code 4 = .ok (.aload_n 0, 1) := by decide +kernel
theorem d37_5 : decode jdk_42_method_151_code 5 = .ok (.aload_n 1, 1) := by decide +kernel
theorem d37_6 : decode jdk_42_method_151_code 6 = .ok (.putfield 9, 3) := by decide +kernel
theorem d37_9 : decode jdk_42_method_151_code 9 = .ok (.aload_n 0, 1) := by decide +kernel
theorem d37_10 : decode jdk_42_method_151_code 10 = .ok (.iload_n 2, 1) := by decide +kernel
theorem d37_11 : decode jdk_42_method_151_code 11 = .ok (.putfield 15, 3) := by decide +kernel
theorem d37_14 : decode jdk_42_method_151_code 14 = .ok (.return_, 1) := by decide +kernel
theorem ef_sbb (m : MethodId) (r : Addr) (cod : Int32) : entryFrame m #[(.ref x'), (.ref r), (.int cod)] 3 = mkF m 0 #[.val (.ref x'), .val (.ref r), .val (.int cod)] [] := by first | (simp [entryFrame, mkF, argsToLocals, Value.category, maxLocals]; done) | rfl
def Q_sbb (Z : State) (x' : Addr) (r : Addr) (cod : Int32) (h0 : Heap) (n0 : Nat) : Option Value → Heap → List Loc → Prop := fun v h L => v = none ∧ Fr n0 L ∧ Keep h0 h [x'] ∧ Fld Z h x' "java/lang/String" "value" "[B" (.ref r) ∧ Fld Z h x' "java/lang/String" "coder" "B" (.int cod)
set_option maxRecDepth 65536 in
set_option maxHeartbeats 40000000 in
theorem rm_sbb (l : Launch) (Z : State) (a0 : Array Value) (hw : ∀ d ∈ tables_1, d.before a0 Z = true) (ws : List Jvm.Cond) (x' : Addr) (r : Addr) (cod : Int32) (h0 : Heap) (n0 : Nat) (Z0 : n0 ≤ h0.size) (E0 : Exa Z h0 x' "java/lang/String") (Fv0 : Fld Z h0 x' "java/lang/String" "value" "[B" .null) (Fc0 : Fld Z h0 x' "java/lang/String" "coder" "B" (.int 0)) (ge_x' : n0 ≤ x') (hz01 : cod = 0 ∨ cod = 1) :
    MetFree l (⟨"java/lang/String", "<init>", "([BB)V"⟩ : MethodName) (head1 (Jvm.Cond.code (⟨"java/lang/String", "<init>", "([BB)V"⟩ : MethodName) jdk_42_method_151_code 3 none :: ws) ({ frames := 1, cells := 0, slots := 0, locals := 12 } : Room)) (fun aX U => aX = #[(.ref x'), (.ref r), (.int cod)] ∧ Z.Warmed39 U.vm ∧ U.heap = h0) (fun _ _ _ _ _ => True) (fun _ U o U' => ∃ v L, o = .returned v ∧ (Q_sbb Z x' r cod h0 n0) v U'.heap L ∧ FrameEnd U o U' L ({ frames := 1, cells := 0, slots := 0, locals := 12 } : Room).cells ({ frames := 1, cells := 0, slots := 0, locals := 12 } : Room).slots) := by
  refine own_met (Q := (Q_sbb Z x' r cod h0 n0)) (plainFor_of_name (x := (⟨"java/lang/String", "<init>", "([BB)V"⟩ : MethodName)) pn_2) (fun m => ef_sbb m r cod) ?_
  intro p e s m below meth cD s₁ hx hby hml hret hlk hZ hown hnm X0 e0 hs0
  have hown : s.vm.findClass "java/lang/String" = some m.cls := hown
  have N0 := Fr.nil n0
  refine own_st (fr' := (mkF m 1 #[.val (.ref x'), .val (.ref r), .val (.int cod)] [(.ref x')])) (fun t k => XS.aloadN X0.here hx rfl (hb hby d37_0) rfl rfl k) ?_
  obtain ⟨T154, X154, e154, st154⟩ := initO X0 hx hZ hown (hw _ (List.mem_of_getElem? (i := 19) rfl)) (hw _ (List.mem_of_getElem? (i := 20) rfl)) (hw _ (List.mem_of_getElem? (i := 21) rfl)) e0 (g := (mkF m 1 #[.val (.ref x'), .val (.ref r), .val (.int cod)] [(.ref x')])) rfl (by rw [hml]; rfl) rfl (hb hby d37_1) (by decide) (W := 0) (by show 2 * 0 + _ ≤ _; exact Nat.le_of_eq rfl) (by decide)
  refine own_st (fr' := (mkF m 4 #[.val (.ref x'), .val (.ref r), .val (.int cod)] [])) st154 ?_
  refine own_st (fr' := (mkF m 5 #[.val (.ref x'), .val (.ref r), .val (.int cod)] [(.ref x')])) (fun t k => XS.aloadN X154.here hx rfl (hb hby d37_4) rfl rfl k) ?_
  refine own_st (fr' := (mkF m 6 #[.val (.ref x'), .val (.ref r), .val (.int cod)] [(.ref r), (.ref x')])) (fun t k => XS.aloadN X154.here hx rfl (hb hby d37_5) rfl rfl k) ?_
  obtain ⟨T155, h155, X155, e155, W155, st155⟩ := putF X154 hx hZ hown (host := "") (Or.inl (hw _ (List.mem_of_getElem? (i := 28) rfl))) Via.refl e154 Fv0 E0 (Or.inr ⟨(hw _ (List.mem_of_getElem? (i := 24) rfl)), rfl, hnm⟩) (hw _ (List.mem_of_getElem? (i := 10) rfl)) (ty := (.array .byte)) (by decide) (rfl) (rfl) (g := (mkF m 6 #[.val (.ref x'), .val (.ref r), .val (.int cod)] [(.ref r), (.ref x')])) rfl rfl (hb hby d37_6)
  have Fw155 := Fld.same W155 Fv0
  have N155 := Fr.snoc X155 N0 ge_x'
  refine own_st (fr' := (mkF m 9 #[.val (.ref x'), .val (.ref r), .val (.int cod)] [])) st155 ?_
  refine own_st (fr' := (mkF m 10 #[.val (.ref x'), .val (.ref r), .val (.int cod)] [(.ref x')])) (fun t k => XS.aloadN X155.here hx rfl (hb hby d37_9) rfl rfl k) ?_
  refine own_st (fr' := (mkF m 11 #[.val (.ref x'), .val (.ref r), .val (.int cod)] [(.int cod), (.ref x')])) (fun t k => XS.iloadN X155.here hx rfl (hb hby d37_10) rfl  k) ?_
  obtain ⟨T156, h156, X156, e156, W156, st156⟩ := putFN X155 hx hZ hown (hw _ (List.mem_of_getElem? (i := 29) rfl)) Via.refl e155 (Fld.other W155 Fc0 (Or.inr (Jvm.RoadKit.slot_ne (C := "java/lang/String") (Or.inr (hw _ (List.mem_of_getElem? (i := 25) rfl))) (Or.inr (hw _ (List.mem_of_getElem? (i := 24) rfl))) (by decide) (t := .byte) (t' := (.array .byte)) (by decide) (by decide)))) (Exa.wr W155 E0) (Or.inr ⟨(hw _ (List.mem_of_getElem? (i := 25) rfl)), rfl, hnm⟩) (hw _ (List.mem_of_getElem? (i := 10) rfl)) (ty := .byte) (v' := (.int cod)) (by decide) (by rcases hz01 with rfl | rfl <;> rfl) (by rcases hz01 with rfl | rfl <;> rfl) (g := (mkF m 11 #[.val (.ref x'), .val (.ref r), .val (.int cod)] [(.int cod), (.ref x')])) rfl rfl (hb hby d37_11)
  have Fw156 := Fld.same W156 (Fld.other W155 Fc0 (Or.inr (Jvm.RoadKit.slot_ne (C := "java/lang/String") (Or.inr (hw _ (List.mem_of_getElem? (i := 25) rfl))) (Or.inr (hw _ (List.mem_of_getElem? (i := 24) rfl))) (by decide) (t := .byte) (t' := (.array .byte)) (by decide) (by decide))))
  have N156 := Fr.snoc X156 N155 ge_x'
  refine own_st (fr' := (mkF m 14 #[.val (.ref x'), .val (.ref r), .val (.int cod)] [])) st156 ?_
  exact own_retV X156 hx hlk hret (hb hby d37_14) (by decide) (by decide) (by rw [e156]; exact ⟨rfl, N156, (Keep.wr (Keep.wr (Keep.refl h0 [x']) W155 (Or.inl (List.mem_of_getElem? (i := 0) rfl))) W156 (Or.inl (List.mem_of_getElem? (i := 0) rfl))), (Fld.other W156 Fw155 (Or.inr (Jvm.RoadKit.slot_ne (C := "java/lang/String") (Or.inr (hw _ (List.mem_of_getElem? (i := 24) rfl))) (Or.inr (hw _ (List.mem_of_getElem? (i := 25) rfl))) (by decide) (t := (.array .byte)) (t' := .byte) (by decide) (by decide)))), Fw156⟩)
theorem own_S16.sub {g g2 : Nat → Value} {mm q : Int} {cs : Nat → Int32} {k : Nat} (H : own_S16 g mm cs) (hg : ∀ i : Nat, (i : Int) < 2 * q → g2 i = g (2 * k + i)) (hk : (k : Int) + q ≤ mm) : own_S16 g2 q (own_sh cs k) := fun i hi => by
  obtain ⟨z0, z1, y0, y1, m⟩ := H (k + i) (by omega)
  refine ⟨z0, z1, ?_, ?_, m⟩
  · rw [hg _ (by omega), ← y0]; congr 1; omega
  · rw [hg _ (by omega), ← y1]; congr 1; omega
theorem own_S8.sub {g g2 : Nat → Value} {mm q : Int} {cs : Nat → Int32} {k : Nat} (H : own_S8 g mm cs) (hg : ∀ i : Nat, (i : Int) < q → g2 i = g (k + i)) (hk : (k : Int) + q ≤ mm) : own_S8 g2 q (own_sh cs k) := fun i hi => by
  obtain ⟨a, z, y, m⟩ := H (k + i) (by omega)
  exact ⟨a, z, (hg i hi).trans y, m⟩
theorem own_sh0 (cs : Nat → Int32) : own_sh cs 0 = cs := by
  funext i
  show cs (0 + i) = cs i
  rw [Nat.zero_add]
theorem pd_20 : parseMethodDescriptor "([BI[BII)I" = some ⟨[(.array .byte), .int, (.array .byte), .int, .int], some .int⟩ := by decide +kernel
theorem d39_0 : decode jdk_52_method_17_code 0 = .ok (.iload_n 2, 1) := by decide +kernel
theorem d39_1 : decode jdk_52_method_17_code 1 = .ok (.newarray .byte, 2) := by decide +kernel
theorem d39_3 : decode jdk_52_method_17_code 3 = .ok (.astore_n 3, 1) := by decide +kernel
theorem d39_4 : decode jdk_52_method_17_code 4 = .ok (.aload_n 0, 1) := by decide +kernel
theorem d39_5 : decode jdk_52_method_17_code 5 = .ok (.iload_n 1, 1) := by decide +kernel
theorem d39_6 : decode jdk_52_method_17_code 6 = .ok (.aload_n 3, 1) := by decide +kernel
theorem d39_7 : decode jdk_52_method_17_code 7 = .ok (.iconst 0, 1) := by decide +kernel
theorem d39_8 : decode jdk_52_method_17_code 8 = .ok (.iload_n 2, 1) := by decide +kernel
theorem d39_9 : decode jdk_52_method_17_code 9 = .ok (.invokestatic 123, 3) := by decide +kernel
theorem d39_12 : decode jdk_52_method_17_code 12 = .ok (.istore 4, 2) := by decide +kernel
theorem d39_14 : decode jdk_52_method_17_code 14 = .ok (.iload 4, 2) := by decide +kernel
theorem d39_16 : decode jdk_52_method_17_code 16 = .ok (.iload_n 2, 1) := by decide +kernel
theorem d39_17 : decode jdk_52_method_17_code 17 = .ok (.if_icmp .eq 47, 3) := by decide +kernel
theorem d39_20 : decode jdk_52_method_17_code 20 = .ok (.aload_n 0, 1) := by decide +kernel
theorem d39_21 : decode jdk_52_method_17_code 21 = .ok (.iload_n 1, 1) := by decide +kernel
theorem d39_22 : decode jdk_52_method_17_code 22 = .ok (.iconst 1, 1) := by decide +kernel
theorem d39_23 : decode jdk_52_method_17_code 23 = .ok (.ishl, 1) := by decide +kernel
theorem d39_24 : decode jdk_52_method_17_code 24 = .ok (.iload_n 1, 1) := by decide +kernel
theorem d39_25 : decode jdk_52_method_17_code 25 = .ok (.iload_n 2, 1) := by decide +kernel
theorem d39_26 : decode jdk_52_method_17_code 26 = .ok (.iadd, 1) := by decide +kernel
theorem d39_27 : decode jdk_52_method_17_code 27 = .ok (.invokestatic 11, 3) := by decide +kernel
theorem d39_30 : decode jdk_52_method_17_code 30 = .ok (.invokestatic 126, 3) := by decide +kernel
theorem d39_33 : decode jdk_52_method_17_code 33 = .ok (.astore 5, 2) := by decide +kernel
theorem d39_35 : decode jdk_52_method_17_code 35 = .ok (.aload 5, 2) := by decide +kernel
theorem d39_37 : decode jdk_52_method_17_code 37 = .ok (.iload 4, 2) := by decide +kernel
theorem d39_39 : decode jdk_52_method_17_code 39 = .ok (.invokestatic 71, 3) := by decide +kernel
theorem d39_42 : decode jdk_52_method_17_code 42 = .ok (.sipush 255, 3) := by decide +kernel
theorem d39_45 : decode jdk_52_method_17_code 45 = .ok (.if_icmp .gt 16, 3) := by decide +kernel
theorem d39_61 : decode jdk_52_method_17_code 61 = .ok (.aload 5, 2) := by decide +kernel
theorem d39_63 : decode jdk_52_method_17_code 63 = .ok (.areturn, 1) := by decide +kernel
theorem d39_64 : decode jdk_52_method_17_code 64 = .ok (.aload_n 3, 1) := by decide +kernel
theorem d39_65 : decode jdk_52_method_17_code 65 = .ok (.areturn, 1) := by decide +kernel
theorem ef_compB (m : MethodId) (b : Addr) (ia : Int32) (q : Int32) : entryFrame m #[(.ref b), (.int ia), (.int q)] 6 = mkF m 0 #[.val (.ref b), .val (.int ia), .val (.int q), .unset, .unset, .unset] [] := by first | (simp [entryFrame, mkF, argsToLocals, Value.category, maxLocals]; done) | rfl
def Q_compB (Z : State) (b : Addr) (nb : Int32) (g : Nat → Value) (mm : Int) (ia : Int32) (q : Int32) (cs : Nat → Int32) (cz : Int32) (fv : Value) (h0 : Heap) (n0 : Nat) : Option Value → Heap → List Loc → Prop := fun v h L => (∃ (r : Addr) (nb' : Int32) (g' : Nat → Value) (cod : Int32), v = some (.ref r) ∧ h0.size ≤ r ∧ own_A Z h r .byte nb' g' ∧ own_By g' nb' q (own_sh cs ia.toInt.toNat) cod) ∧ Fr n0 L ∧ Keep h0 h []
set_option maxRecDepth 65536 in
set_option maxHeartbeats 40000000 in
theorem rm_compB (l : Launch) (Z : State) (a0 : Array Value) (hw : ∀ d ∈ tables_1, d.before a0 Z = true) (ws : List Jvm.Cond) (b : Addr) (nb : Int32) (g : Nat → Value) (mm : Int) (ia : Int32) (q : Int32) (cs : Nat → Int32) (cz : Int32) (fv : Value) (h0 : Heap) (n0 : Nat) (Z0 : n0 ≤ h0.size) (VB : own_A Z h0 b .byte nb g) (H16 : own_S16 g mm cs) (hmm : nb.toInt = 2 * mm ∧ mm ≤ 5) (hia : 0 ≤ ia.toInt ∧ 0 ≤ q.toInt ∧ ia.toInt + q.toInt ≤ mm) (hR : own_Rg cs) (hpr : ¬ ia.toInt = 0 ∨ ¬ ia.toInt + q.toInt = mm) (S_cs : Sta Z h0 "java/lang/String" "COMPACT_STRINGS" "Z" (.int cz)) (S_fm : Sta Z h0 "jdk/internal/util/Preconditions" "SIOOBE_FORMATTER" "Ljava/util/function/BiFunction;" fv) (S_as : Sta Z h0 "java/lang/StringUTF16" "$assertionsDisabled" "Z" (.int (1 : Int32))) (S_hi : Sta Z h0 "java/lang/StringUTF16" "HI_BYTE_SHIFT" "I" (.int (0 : Int32))) (S_lo : Sta Z h0 "java/lang/StringUTF16" "LO_BYTE_SHIFT" "I" (.int (8 : Int32))) (hcz : ¬ cz.toInt = 0) (hfv : fv.isRef = true) :
    MetFree l (⟨"java/lang/StringUTF16", "compress", "([BII)[B"⟩ : MethodName) (head1 (Jvm.Cond.code (⟨"java/lang/StringUTF16", "compress", "([BII)[B"⟩ : MethodName) jdk_52_method_17_code 6 (some (.array .byte)) :: ws) ({ frames := 4, cells := 2, slots := 15, locals := 96 } : Room)) (fun aX U => aX = #[(.ref b), (.int ia), (.int q)] ∧ Z.Warmed39 U.vm ∧ U.heap = h0) (fun _ _ _ _ _ => True) (fun _ U o U' => ∃ v L, o = .returned v ∧ (Q_compB Z b nb g mm ia q cs cz fv h0 n0) v U'.heap L ∧ FrameEnd U o U' L ({ frames := 4, cells := 2, slots := 15, locals := 96 } : Room).cells ({ frames := 4, cells := 2, slots := 15, locals := 96 } : Room).slots) := by
  refine own_met (Q := (Q_compB Z b nb g mm ia q cs cz fv h0 n0)) (plainFor_of_name (x := (⟨"java/lang/StringUTF16", "compress", "([BII)[B"⟩ : MethodName)) pn_0) (fun m => ef_compB m b ia q) ?_
  intro p e s m below meth cD s₁ hx hby hml hret hlk hZ hown hnm X0 e0 hs0
  have hown : s.vm.findClass "java/lang/StringUTF16" = some m.cls := hown
  have N0 := Fr.nil n0
  refine own_st (fr' := (mkF m 1 #[.val (.ref b), .val (.int ia), .val (.int q), .unset, .unset, .unset] [(.int q)])) (fun t k => XS.iloadN X0.here hx rfl (hb hby d39_0) rfl  k) ?_
  refine own_newarrE X0 hx hZ (hw _ (List.mem_of_getElem? (i := 23) rfl)) e0 (hb hby d39_1) (hia.2.1) (cap := 5) (by omega) (by decide) (by decide) (by decide) rfl (C := "[B") rfl ?_
  intro T157 h157 b157 g157 X157 e157 E157 VA157 EX157
  have V157 := own_B.new VA157
  have lt157_b : b < b157 := Nat.lt_of_lt_of_eq VB.lt g157.symm
  have ne157_b : b ≠ b157 := Nat.ne_of_lt lt157_b
  have ge_b157 : n0 ≤ b157 := Nat.le_trans Z0 (Nat.le_of_eq g157.symm)
  have sz_b157 : h0.size ≤ b157 := Nat.le_trans (Nat.le_refl _) (Nat.le_of_eq g157.symm)
  refine own_st (fr' := (mkF m 4 #[.val (.ref b), .val (.int ia), .val (.int q), .val (.ref b157), .unset, .unset] [])) (fun t k => XS.astoreN X157.here hx rfl (hb hby d39_3) rfl rfl (l' := #[.val (.ref b), .val (.int ia), .val (.int q), .val (.ref b157), .unset, .unset]) rfl k) ?_
  refine own_st (fr' := (mkF m 5 #[.val (.ref b), .val (.int ia), .val (.int q), .val (.ref b157), .unset, .unset] [(.ref b)])) (fun t k => XS.aloadN X157.here hx rfl (hb hby d39_4) rfl rfl k) ?_
  refine own_st (fr' := (mkF m 6 #[.val (.ref b), .val (.int ia), .val (.int q), .val (.ref b157), .unset, .unset] [(.int ia), (.ref b)])) (fun t k => XS.iloadN X157.here hx rfl (hb hby d39_5) rfl  k) ?_
  refine own_st (fr' := (mkF m 7 #[.val (.ref b), .val (.int ia), .val (.int q), .val (.ref b157), .unset, .unset] [(.ref b157), (.int ia), (.ref b)])) (fun t k => XS.aloadN X157.here hx rfl (hb hby d39_6) rfl rfl k) ?_
  refine own_st (fr' := (mkF m 8 #[.val (.ref b), .val (.int ia), .val (.int q), .val (.ref b157), .unset, .unset] [(.int (0 : Int32)), (.ref b157), (.int ia), (.ref b)])) (fun t k => XS.iconst X157.here hx rfl (hb hby d39_7) k) ?_
  refine own_st (fr' := (mkF m 9 #[.val (.ref b), .val (.int ia), .val (.int q), .val (.ref b157), .unset, .unset] [(.int q), (.int (0 : Int32)), (.ref b157), (.int ia), (.ref b)])) (fun t k => XS.iloadN X157.here hx rfl (hb hby d39_8) rfl  k) ?_
  refine own_callS X157 hx hZ (y := (⟨"java/lang/StringUTF16", "compress", "([BI[BII)I"⟩ : MethodName)) hown (hw _ (List.mem_of_getElem? (i := 165) rfl)) (hw _ (List.mem_of_getElem? (i := 166) rfl)) (hw _ (List.mem_of_getElem? (i := 62) rfl)) (hw _ (List.mem_of_getElem? (i := 167) rfl)) (by decide) (argsL := [(.ref b), (.int ia), (.ref b157), (.int (0 : Int32)), (.int q)]) (rest := []) (W := 0) (rm_bloop l Z a0 hw [] b nb g mm ia q cs b157 _ cz fv h157 n0 (Nat.le_trans Z0 E157.1) (VB.ext E157) H16 hmm hia hR VA157 ne157_b ge_b157 (Sta.ext E157 S_cs) (Sta.ext E157 S_fm) (Sta.ext E157 S_as) (Sta.ext E157 S_hi) (Sta.ext E157 S_lo) hcz hfv) e157 (by rw [hml]; rfl) (lenOf pd_20 rfl) rfl (Nat.le_of_eq rfl) (hb hby d39_9) (by decide) (by decide) (by decide) (by decide) ?_
  intro v158 T158 L158 X158 hQ158
  obtain ⟨⟨kk, g1, rfl, k1, k2, k3, k4, VR, Hg⟩, Nq158, K158⟩ := hQ158
  have N158 := Fr.app N0 Nq158
  refine own_st (fr' := (mkF m 14 #[.val (.ref b), .val (.int ia), .val (.int q), .val (.ref b157), .val (.int kk), .unset] [])) (fun t k => XS.istore X158.here hx rfl (hb hby d39_12) rfl  (l' := #[.val (.ref b), .val (.int ia), .val (.int q), .val (.ref b157), .val (.int kk), .unset]) rfl k) ?_
  refine own_st (fr' := (mkF m 16 #[.val (.ref b), .val (.int ia), .val (.int q), .val (.ref b157), .val (.int kk), .unset] [(.int kk)])) (fun t k => XS.iload X158.here hx rfl (hb hby d39_14) rfl  k) ?_
  refine own_st (fr' := (mkF m 17 #[.val (.ref b), .val (.int ia), .val (.int q), .val (.ref b157), .val (.int kk), .unset] [(.int q), (.int kk)])) (fun t k => XS.iloadN X158.here hx rfl (hb hby d39_16) rfl  k) ?_
  by_cases hkq : kk.toInt = q.toInt
  · refine own_st (fr' := (mkF m 64 #[.val (.ref b), .val (.int ia), .val (.int q), .val (.ref b157), .val (.int kk), .unset] [])) (fun t k => XS.icmpYes X158.here hx rfl (pc0 := 17) (pc' := 64) rfl (hb hby d39_17) rfl (own_teq (x := kk) (y := q) hkq).1 (by decide) (by decide) k) ?_
    refine own_st (fr' := (mkF m 65 #[.val (.ref b), .val (.int ia), .val (.int q), .val (.ref b157), .val (.int kk), .unset] [(.ref b157)])) (fun t k => XS.aloadN X158.here hx rfl (hb hby d39_64) rfl rfl k) ?_
    exact own_retA X158 hx hlk hret rfl rfl (hb hby d39_65) (by decide) (by decide) (⟨⟨b157, q, g1, 0, rfl, sz_b157, VR, Or.inl ⟨rfl, rfl, fun i hi => ⟨k3 i (by omega), _, Hg i (by omega), by have b0 := c_i2b ((own_sh cs ia.toInt.toNat) i); have b1 := c_i2b (((own_sh cs ia.toInt.toNat) i).toInt8.toInt32); show ((((own_sh cs ia.toInt.toNat) i).toInt8.toInt32).toInt8.toInt32.toInt - _) % 256 = 0; omega⟩⟩⟩, N158, (Keep.trans (Keep.ext (Keep.refl h0 []) E157) K158 (allS (Or.inr sz_b157) all0))⟩)
  · refine own_st (fr' := (mkF m 20 #[.val (.ref b), .val (.int ia), .val (.int q), .val (.ref b157), .val (.int kk), .unset] [])) (fun t k => XS.icmpNo X158.here hx rfl (hb hby d39_17) rfl (own_feq (x := kk) (y := q) hkq).1 k) ?_
    refine own_st (fr' := (mkF m 21 #[.val (.ref b), .val (.int ia), .val (.int q), .val (.ref b157), .val (.int kk), .unset] [(.ref b)])) (fun t k => XS.aloadN X158.here hx rfl (hb hby d39_20) rfl rfl k) ?_
    refine own_st (fr' := (mkF m 22 #[.val (.ref b), .val (.int ia), .val (.int q), .val (.ref b157), .val (.int kk), .unset] [(.int ia), (.ref b)])) (fun t k => XS.iloadN X158.here hx rfl (hb hby d39_21) rfl  k) ?_
    refine own_st (fr' := (mkF m 23 #[.val (.ref b), .val (.int ia), .val (.int q), .val (.ref b157), .val (.int kk), .unset] [(.int (1 : Int32)), (.int ia), (.ref b)])) (fun t k => XS.iconst X158.here hx rfl (hb hby d39_22) k) ?_
    refine own_st (fr' := (mkF m 24 #[.val (.ref b), .val (.int ia), .val (.int q), .val (.ref b157), .val (.int kk), .unset] [(.int (ia <<< ((1 : Int32) &&& 31))), (.ref b)])) (fun t k => XS.ishl X158.here hx rfl (hb hby d39_23) rfl k) ?_
    refine own_st (fr' := (mkF m 25 #[.val (.ref b), .val (.int ia), .val (.int q), .val (.ref b157), .val (.int kk), .unset] [(.int ia), (.int (ia <<< ((1 : Int32) &&& 31))), (.ref b)])) (fun t k => XS.iloadN X158.here hx rfl (hb hby d39_24) rfl  k) ?_
    refine own_st (fr' := (mkF m 26 #[.val (.ref b), .val (.int ia), .val (.int q), .val (.ref b157), .val (.int kk), .unset] [(.int q), (.int ia), (.int (ia <<< ((1 : Int32) &&& 31))), (.ref b)])) (fun t k => XS.iloadN X158.here hx rfl (hb hby d39_25) rfl  k) ?_
    refine own_st (fr' := (mkF m 27 #[.val (.ref b), .val (.int ia), .val (.int q), .val (.ref b157), .val (.int kk), .unset] [(.int (ia + q)), (.int (ia <<< ((1 : Int32) &&& 31))), (.ref b)])) (fun t k => XS.iadd X158.here hx rfl (hb hby d39_26) rfl k) ?_
    have s0 := c_ishl ia 1 1 (by decide)
    have s1 := rng32 (ia <<< ((1 : Int32) &&& 31))
    have s2 := c_iadd ia q
    have s3 := rng32 (ia + q)
    generalize (ia <<< ((1 : Int32) &&& 31)) = fr0 at s0 s1 ⊢
    generalize (ia + q) = ie at s2 s3 ⊢
    have hfr : fr0.toInt = 2 * ia.toInt := by omega
    have hie : ie.toInt = ia.toInt + q.toInt := by omega
    refine own_callS X158 hx hZ (y := (⟨"java/lang/StringUTF16", "newBytesLength", "(I)I"⟩ : MethodName)) hown (hw _ (List.mem_of_getElem? (i := 73) rfl)) (hw _ (List.mem_of_getElem? (i := 74) rfl)) (hw _ (List.mem_of_getElem? (i := 62) rfl)) (hw _ (List.mem_of_getElem? (i := 75) rfl)) (by decide) (argsL := [(.int ie)]) (rest := [(.int fr0), (.ref b)]) (W := 2) (rm_nbl l Z a0 hw [] ie T158.heap n0 (Nat.le_trans (Nat.le_trans Z0 E157.1) K158.1) ⟨by omega, by omega⟩) rfl (by rw [hml]; rfl) (lenOf pd_0 rfl) rfl (Nat.le_of_eq rfl) (hb hby d39_27) (by decide) (by decide) (by decide) (by decide) ?_
    intro v159 T159 L159 X159 hQ159
    obtain ⟨⟨nl, rfl, hnl⟩, Nq159, eq159⟩ := hQ159
    have N159 := Fr.app N158 Nq159
    refine own_callS X159 hx hZ (y := (⟨"java/util/Arrays", "copyOfRange", "([BII)[B"⟩ : MethodName)) hown (hw _ (List.mem_of_getElem? (i := 177) rfl)) (hw _ (List.mem_of_getElem? (i := 138) rfl)) (hw _ (List.mem_of_getElem? (i := 139) rfl)) (hw _ (List.mem_of_getElem? (i := 140) rfl)) (by decide) (argsL := [(.ref b), (.int fr0), (.int nl)]) (rest := []) (W := 0) (rm_cr1 l Z a0 hw [] b fr0 nl nb g T158.heap n0 (Nat.le_trans (Nat.le_trans Z0 E157.1) K158.1) ((VB.ext E157).keep K158 (ninS ne157_b nin0)) ⟨by omega, by omega, by omega⟩ (by omega) (by omega)) eq159 (by rw [hml]; rfl) (lenOf pd_19 rfl) rfl (Nat.le_of_eq rfl) (hb hby d39_30) (by decide) (by decide) (by decide) (by decide) ?_
    intro v160 T160 L160 X160 hQ160
    obtain ⟨⟨r2, g2, n2, rfl, hr2, hn2, VR2, hg2⟩, Nq160, K160⟩ := hQ160
    have N160 := Fr.app N159 Nq160
    have hbig := k4 (by omega)
    have sr2 : h0.size ≤ r2 := Nat.le_trans (Nat.le_trans (Nat.le_trans (Nat.le_refl _) E157.1) K158.1) hr2
    have H2 : own_S16 g2 q.toInt (own_sh cs ia.toInt.toNat) := H16.sub (fun i hi => by rw [hg2 i (by omega), show fr0.toInt.toNat = 2 * ia.toInt.toNat from by omega]) (by omega)
    refine own_st (fr' := (mkF m 35 #[.val (.ref b), .val (.int ia), .val (.int q), .val (.ref b157), .val (.int kk), .val (.ref r2)] [])) (fun t k => XS.astore X160.here hx rfl (hb hby d39_33) rfl rfl (l' := #[.val (.ref b), .val (.int ia), .val (.int q), .val (.ref b157), .val (.int kk), .val (.ref r2)]) rfl k) ?_
    refine own_st (fr' := (mkF m 37 #[.val (.ref b), .val (.int ia), .val (.int q), .val (.ref b157), .val (.int kk), .val (.ref r2)] [(.ref r2)])) (fun t k => XS.aload X160.here hx rfl (hb hby d39_35) rfl rfl k) ?_
    refine own_st (fr' := (mkF m 39 #[.val (.ref b), .val (.int ia), .val (.int q), .val (.ref b157), .val (.int kk), .val (.ref r2)] [(.int kk), (.ref r2)])) (fun t k => XS.iload X160.here hx rfl (hb hby d39_37) rfl  k) ?_
    refine own_callS X160 hx hZ (y := (⟨"java/lang/StringUTF16", "getChar", "([BI)C"⟩ : MethodName)) hown (hw _ (List.mem_of_getElem? (i := 83) rfl)) (hw _ (List.mem_of_getElem? (i := 84) rfl)) (hw _ (List.mem_of_getElem? (i := 62) rfl)) (hw _ (List.mem_of_getElem? (i := 85) rfl)) (by decide) (argsL := [(.ref r2), (.int kk)]) (rest := []) (W := 0) (rm_getc l Z a0 hw [] r2 n2 g2 kk ((own_sh cs ia.toInt.toNat) kk.toInt.toNat) cz fv T160.heap n0 (Nat.le_trans (Nat.le_trans (Nat.le_trans Z0 E157.1) K158.1) K160.1) VR2 ⟨k1, by omega, by omega⟩ (hR _) (H2 _ (by omega)) (own_sk0 (own_skA (Sta.ext E157 S_cs) K158 VA157) K160) (own_sk0 (own_skA (Sta.ext E157 S_fm) K158 VA157) K160) (own_sk0 (own_skA (Sta.ext E157 S_as) K158 VA157) K160) (own_sk0 (own_skA (Sta.ext E157 S_hi) K158 VA157) K160) (own_sk0 (own_skA (Sta.ext E157 S_lo) K158 VA157) K160) hcz hfv) rfl (by rw [hml]; rfl) (lenOf pd_5 rfl) rfl (Nat.le_of_eq rfl) (hb hby d39_39) (by decide) (by decide) (by decide) (by decide) ?_
    intro v161 T161 L161 X161 hQ161
    obtain ⟨rfl, Nq161, eq161⟩ := hQ161
    have N161 := Fr.app N160 Nq161
    refine own_st (fr' := (mkF m 45 #[.val (.ref b), .val (.int ia), .val (.int q), .val (.ref b157), .val (.int kk), .val (.ref r2)] [(.int (255 : Int32)), (.int ((own_sh cs ia.toInt.toNat) kk.toInt.toNat))])) (fun t k => XS.sipush X161.here hx rfl (hb hby d39_42) k) ?_
    refine own_st (fr' := (mkF m 61 #[.val (.ref b), .val (.int ia), .val (.int q), .val (.ref b157), .val (.int kk), .val (.ref r2)] [])) (fun t k => XS.icmpYes X161.here hx rfl (pc0 := 45) (pc' := 61) rfl (hb hby d39_45) rfl (own_tlt (x := (255 : Int32)) (y := ((own_sh cs ia.toInt.toNat) kk.toInt.toNat)) (show 255 < ((own_sh cs ia.toInt.toNat) kk.toInt.toNat).toInt from hbig)).2.2.1 (by decide) (by decide) k) ?_
    refine own_st (fr' := (mkF m 63 #[.val (.ref b), .val (.int ia), .val (.int q), .val (.ref b157), .val (.int kk), .val (.ref r2)] [(.ref r2)])) (fun t k => XS.aload X161.here hx rfl (hb hby d39_61) rfl rfl k) ?_
    exact own_retA X161 hx hlk hret rfl rfl (hb hby d39_63) (by decide) (by decide) (by rw [eq161]; exact ⟨⟨r2, n2, g2, 1, rfl, sr2, VR2, Or.inr ⟨rfl, by omega, H2, kk.toInt.toNat, by omega, hbig⟩⟩, N161, (Keep.trans (Keep.trans (Keep.ext (Keep.refl h0 []) E157) K158 (allS (Or.inr sz_b157) all0)) K160 all0)⟩)
theorem pd_21 : parseMethodDescriptor "([BB)V" = some ⟨[(.array .byte), .byte], none⟩ := by decide +kernel
theorem d38_0 : decode jdk_52_method_69_code 0 = .ok (.iload_n 2, 1) := by decide +kernel
theorem d38_1 : decode jdk_52_method_69_code 1 = .ok (.ifCond .ne 7, 3) := by decide +kernel
theorem d38_8 : decode jdk_52_method_69_code 8 = .ok (.getstatic 251, 3) := by decide +kernel
theorem d38_11 : decode jdk_52_method_69_code 11 = .ok (.ifCond .eq 28, 3) := by decide +kernel
theorem d38_14 : decode jdk_52_method_69_code 14 = .ok (.aload_n 0, 1) := by decide +kernel
theorem d38_15 : decode jdk_52_method_69_code 15 = .ok (.iload_n 1, 1) := by decide +kernel
theorem d38_16 : decode jdk_52_method_69_code 16 = .ok (.iload_n 2, 1) := by decide +kernel
theorem d38_17 : decode jdk_52_method_69_code 17 = .ok (.invokestatic 257, 3) := by decide +kernel
theorem d38_20 : decode jdk_52_method_69_code 20 = .ok (.astore_n 3, 1) := by decide +kernel
theorem d38_21 : decode jdk_52_method_69_code 21 = .ok (.aload_n 3, 1) := by decide +kernel
theorem d38_22 : decode jdk_52_method_69_code 22 = .ok (.iload_n 2, 1) := by decide +kernel
theorem d38_23 : decode jdk_52_method_69_code 23 = .ok (.invokestatic 259, 3) := by decide +kernel
theorem d38_26 : decode jdk_52_method_69_code 26 = .ok (.istore 4, 2) := by decide +kernel
theorem d38_28 : decode jdk_52_method_69_code 28 = .ok (.new 3, 3) := by decide +kernel
theorem d38_31 : decode jdk_52_method_69_code 31 = .ok (.dup, 1) := by decide +kernel
theorem d38_32 : decode jdk_52_method_69_code 32 = .ok (.aload_n 3, 1) := by decide +kernel
theorem d38_33 : decode jdk_52_method_69_code 33 = .ok (.iload 4, 2) := by decide +kernel
theorem d38_35 : decode jdk_52_method_69_code 35 = .ok (.invokespecial 263, 3) := by decide +kernel
theorem d38_38 : decode jdk_52_method_69_code 38 = .ok (.areturn, 1) := by decide +kernel
theorem ef_unew (m : MethodId) (b : Addr) (ia : Int32) (q : Int32) : entryFrame m #[(.ref b), (.int ia), (.int q)] 5 = mkF m 0 #[.val (.ref b), .val (.int ia), .val (.int q), .unset, .unset] [] := by first | (simp [entryFrame, mkF, argsToLocals, Value.category, maxLocals]; done) | rfl
def Q_unew (Z : State) (b : Addr) (nb : Int32) (g : Nat → Value) (mm : Int) (ia : Int32) (q : Int32) (cs : Nat → Int32) (cz : Int32) (fv : Value) (h0 : Heap) (n0 : Nat) : Option Value → Heap → List Loc → Prop := fun v h L => (∃ x2 : Addr, v = some (.ref x2) ∧ own_Str Z h x2 q (own_sh cs ia.toInt.toNat)) ∧ Fr n0 L ∧ Keep h0 h []
set_option maxRecDepth 65536 in
set_option maxHeartbeats 40000000 in
theorem rm_unew (l : Launch) (Z : State) (a0 : Array Value) (hw : ∀ d ∈ tables_1, d.before a0 Z = true) (ws : List Jvm.Cond) (b : Addr) (nb : Int32) (g : Nat → Value) (mm : Int) (ia : Int32) (q : Int32) (cs : Nat → Int32) (cz : Int32) (fv : Value) (h0 : Heap) (n0 : Nat) (Z0 : n0 ≤ h0.size) (VB : own_A Z h0 b .byte nb g) (H16 : own_S16 g mm cs) (hmm : nb.toInt = 2 * mm ∧ mm ≤ 5) (hia : 0 ≤ ia.toInt ∧ 0 ≤ q.toInt ∧ ia.toInt + q.toInt ≤ mm) (hR : own_Rg cs) (hpr : ¬ ia.toInt = 0 ∨ ¬ ia.toInt + q.toInt = mm) (hq1 : 1 ≤ q.toInt) (S_cs : Sta Z h0 "java/lang/String" "COMPACT_STRINGS" "Z" (.int cz)) (S_fm : Sta Z h0 "jdk/internal/util/Preconditions" "SIOOBE_FORMATTER" "Ljava/util/function/BiFunction;" fv) (S_as : Sta Z h0 "java/lang/StringUTF16" "$assertionsDisabled" "Z" (.int (1 : Int32))) (S_hi : Sta Z h0 "java/lang/StringUTF16" "HI_BYTE_SHIFT" "I" (.int (0 : Int32))) (S_lo : Sta Z h0 "java/lang/StringUTF16" "LO_BYTE_SHIFT" "I" (.int (8 : Int32))) (hcz : ¬ cz.toInt = 0) (hfv : fv.isRef = true) :
    MetFree l (⟨"java/lang/StringUTF16", "newString", "([BII)Ljava/lang/String;"⟩ : MethodName) (head1 (Jvm.Cond.code (⟨"java/lang/StringUTF16", "newString", "([BII)Ljava/lang/String;"⟩ : MethodName) jdk_52_method_69_code 5 (some (.object "java/lang/String")) :: ws) ({ frames := 5, cells := 3, slots := 19, locals := 113 } : Room)) (fun aX U => aX = #[(.ref b), (.int ia), (.int q)] ∧ Z.Warmed39 U.vm ∧ U.heap = h0) (fun _ _ _ _ _ => True) (fun _ U o U' => ∃ v L, o = .returned v ∧ (Q_unew Z b nb g mm ia q cs cz fv h0 n0) v U'.heap L ∧ FrameEnd U o U' L ({ frames := 5, cells := 3, slots := 19, locals := 113 } : Room).cells ({ frames := 5, cells := 3, slots := 19, locals := 113 } : Room).slots) := by
  refine own_met (Q := (Q_unew Z b nb g mm ia q cs cz fv h0 n0)) (plainFor_of_name (x := (⟨"java/lang/StringUTF16", "newString", "([BII)Ljava/lang/String;"⟩ : MethodName)) pn_0) (fun m => ef_unew m b ia q) ?_
  intro p e s m below meth cD s₁ hx hby hml hret hlk hZ hown hnm X0 e0 hs0
  have hown : s.vm.findClass "java/lang/StringUTF16" = some m.cls := hown
  have N0 := Fr.nil n0
  refine own_st (fr' := (mkF m 1 #[.val (.ref b), .val (.int ia), .val (.int q), .unset, .unset] [(.int q)])) (fun t k => XS.iloadN X0.here hx rfl (hb hby d38_0) rfl  k) ?_
  refine own_st (fr' := (mkF m 8 #[.val (.ref b), .val (.int ia), .val (.int q), .unset, .unset] [])) (fun t k => XS.ifYes X0.here hx rfl (pc0 := 1) (pc' := 8) rfl (hb hby d38_1) rfl ((if0 _ _).trans (own_feq (x := q) (y := (0 : Int32)) (show ¬ q.toInt = 0 from by omega)).2) (by decide) (by decide) k) ?_
  obtain ⟨T162, X162, e162, st162⟩ := getS2 X0 hx hZ hown (host := "") (Or.inl (hw _ (List.mem_of_getElem? (i := 161) rfl))) Via.refl e0 S_cs (g := (mkF m 8 #[.val (.ref b), .val (.int ia), .val (.int q), .unset, .unset] [])) rfl (hb hby d38_8)
  refine own_st (fr' := (mkF m 11 #[.val (.ref b), .val (.int ia), .val (.int q), .unset, .unset] [(.int cz)])) st162 ?_
  refine own_st (fr' := (mkF m 14 #[.val (.ref b), .val (.int ia), .val (.int q), .unset, .unset] [])) (fun t k => XS.ifNo X162.here hx rfl (hb hby d38_11) rfl ((if0 _ _).trans (own_feq (x := cz) (y := (0 : Int32)) (show ¬ cz.toInt = 0 from hcz)).1) k) ?_
  refine own_st (fr' := (mkF m 15 #[.val (.ref b), .val (.int ia), .val (.int q), .unset, .unset] [(.ref b)])) (fun t k => XS.aloadN X162.here hx rfl (hb hby d38_14) rfl rfl k) ?_
  refine own_st (fr' := (mkF m 16 #[.val (.ref b), .val (.int ia), .val (.int q), .unset, .unset] [(.int ia), (.ref b)])) (fun t k => XS.iloadN X162.here hx rfl (hb hby d38_15) rfl  k) ?_
  refine own_st (fr' := (mkF m 17 #[.val (.ref b), .val (.int ia), .val (.int q), .unset, .unset] [(.int q), (.int ia), (.ref b)])) (fun t k => XS.iloadN X162.here hx rfl (hb hby d38_16) rfl  k) ?_
  refine own_callS X162 hx hZ (y := (⟨"java/lang/StringUTF16", "compress", "([BII)[B"⟩ : MethodName)) hown (hw _ (List.mem_of_getElem? (i := 162) rfl)) (hw _ (List.mem_of_getElem? (i := 163) rfl)) (hw _ (List.mem_of_getElem? (i := 62) rfl)) (hw _ (List.mem_of_getElem? (i := 164) rfl)) (by decide) (argsL := [(.ref b), (.int ia), (.int q)]) (rest := []) (W := 0) (rm_compB l Z a0 hw [] b nb g mm ia q cs cz fv h0 n0 Z0 VB H16 hmm hia hR hpr S_cs S_fm S_as S_hi S_lo hcz hfv) e162 (by rw [hml]; rfl) (lenOf pd_19 rfl) rfl (Nat.le_of_eq rfl) (hb hby d38_17) (by decide) (by decide) (by decide) (by decide) ?_
  intro v163 T163 L163 X163 hQ163
  obtain ⟨⟨r2, nb2, g2, cod, rfl, hr2, VR2, HB⟩, Nq163, K163⟩ := hQ163
  have N163 := Fr.app N0 Nq163
  have hnb := HB.n hia.2.1
  have hnb0 : 0 ≤ nb2.toInt := by obtain ⟨_, _, _, q0, _⟩ := VR2; exact q0
  refine own_st (fr' := (mkF m 21 #[.val (.ref b), .val (.int ia), .val (.int q), .val (.ref r2), .unset] [])) (fun t k => XS.astoreN X163.here hx rfl (hb hby d38_20) rfl rfl (l' := #[.val (.ref b), .val (.int ia), .val (.int q), .val (.ref r2), .unset]) rfl k) ?_
  refine own_st (fr' := (mkF m 22 #[.val (.ref b), .val (.int ia), .val (.int q), .val (.ref r2), .unset] [(.ref r2)])) (fun t k => XS.aloadN X163.here hx rfl (hb hby d38_21) rfl rfl k) ?_
  refine own_st (fr' := (mkF m 23 #[.val (.ref b), .val (.int ia), .val (.int q), .val (.ref r2), .unset] [(.int q), (.ref r2)])) (fun t k => XS.iloadN X163.here hx rfl (hb hby d38_22) rfl  k) ?_
  refine own_callS X163 hx hZ (y := (⟨"java/lang/StringUTF16", "coderFromArrayLen", "([BI)B"⟩ : MethodName)) hown (hw _ (List.mem_of_getElem? (i := 178) rfl)) (hw _ (List.mem_of_getElem? (i := 87) rfl)) (hw _ (List.mem_of_getElem? (i := 62) rfl)) (hw _ (List.mem_of_getElem? (i := 88) rfl)) (by decide) (argsL := [(.ref r2), (.int q)]) (rest := []) (W := 0) (rm_cfal l Z a0 hw [] r2 q nb2 g2 T163.heap n0 (Nat.le_trans Z0 K163.1) VR2 ⟨by omega, by omega⟩ ⟨hnb0, by omega⟩) rfl (by rw [hml]; rfl) (lenOf pd_6 rfl) rfl (Nat.le_of_eq rfl) (hb hby d38_23) (by decide) (by decide) (by decide) (by decide) ?_
  intro v164 T164 L164 X164 hQ164
  obtain ⟨⟨zc, rfl, hzc⟩, Nq164, eq164⟩ := hQ164
  have N164 := Fr.app N163 Nq164
  obtain rfl : zc = cod := HB.cod hq1 hzc
  refine own_st (fr' := (mkF m 28 #[.val (.ref b), .val (.int ia), .val (.int q), .val (.ref r2), .val (.int zc)] [])) (fun t k => XS.istore X164.here hx rfl (hb hby d38_26) rfl  (l' := #[.val (.ref b), .val (.int ia), .val (.int q), .val (.ref r2), .val (.int zc)]) rfl k) ?_
  obtain ⟨T165, h165, X165, e165, E165, A165, D165, -, st165⟩ := newO X164 hx hZ hown (hw _ (List.mem_of_getElem? (i := 179) rfl)) (hw _ (List.mem_of_getElem? (i := 10) rfl)) (hw _ (List.mem_of_getElem? (i := 11) rfl)) eq164 (g := (mkF m 28 #[.val (.ref b), .val (.int ia), .val (.int q), .val (.ref r2), .val (.int zc)] [])) rfl (hb hby d38_28) (by decide) (by decide)
  obtain ⟨b165, g165⟩ : ∃ z, z = T163.heap.size := ⟨_, rfl⟩
  rw [← g165] at A165 D165 st165
  have lt165_b : b < b165 := Nat.lt_of_lt_of_eq (VB.keep K163 nin0).lt g165.symm
  have ne165_b : b ≠ b165 := Nat.ne_of_lt lt165_b
  have lt165_r2 : r2 < b165 := Nat.lt_of_lt_of_eq VR2.lt g165.symm
  have ne165_r2 : r2 ≠ b165 := Nat.ne_of_lt lt165_r2
  have ge_b165 : n0 ≤ b165 := Nat.le_trans (Nat.le_trans Z0 K163.1) (Nat.le_of_eq g165.symm)
  have sz_b165 : h0.size ≤ b165 := Nat.le_trans (Nat.le_trans (Nat.le_refl _) K163.1) (Nat.le_of_eq g165.symm)
  have F165_value : Fld Z h165 b165 "java/lang/String" "value" "[B" .null := D165 (Or.inr (hw _ (List.mem_of_getElem? (i := 24) rfl))) (ty := (.array .byte)) (by decide)
  have F165_coder : Fld Z h165 b165 "java/lang/String" "coder" "B" (.int (0 : Int32)) := D165 (Or.inr (hw _ (List.mem_of_getElem? (i := 25) rfl))) (ty := .byte) (by decide)
  refine own_st (fr' := (mkF m 31 #[.val (.ref b), .val (.int ia), .val (.int q), .val (.ref r2), .val (.int zc)] [(.ref b165)])) st165 ?_
  refine own_st (fr' := (mkF m 32 #[.val (.ref b), .val (.int ia), .val (.int q), .val (.ref r2), .val (.int zc)] [(.ref b165), (.ref b165)])) (fun t k => XS.dup X165.here hx rfl (hb hby d38_31) rfl rfl k) ?_
  refine own_st (fr' := (mkF m 33 #[.val (.ref b), .val (.int ia), .val (.int q), .val (.ref r2), .val (.int zc)] [(.ref r2), (.ref b165), (.ref b165)])) (fun t k => XS.aloadN X165.here hx rfl (hb hby d38_32) rfl rfl k) ?_
  refine own_st (fr' := (mkF m 35 #[.val (.ref b), .val (.int ia), .val (.int q), .val (.ref r2), .val (.int zc)] [(.int zc), (.ref r2), (.ref b165), (.ref b165)])) (fun t k => XS.iload X165.here hx rfl (hb hby d38_33) rfl  k) ?_
  refine own_callN X165 hx hZ (y := (⟨"java/lang/String", "<init>", "([BB)V"⟩ : MethodName)) hown rfl (hw _ (List.mem_of_getElem? (i := 180) rfl)) (hw _ (List.mem_of_getElem? (i := 156) rfl)) (hw _ (List.mem_of_getElem? (i := 11) rfl)) (hw _ (List.mem_of_getElem? (i := 157) rfl)) (by decide) (a := b165) (argsL := [(.ref r2), (.int zc)]) (rest := [(.ref b165)]) (W := 1) (rm_sbb l Z a0 hw [] b165 r2 zc h165 n0 (Nat.le_trans (Nat.le_trans Z0 K163.1) E165.1) A165 F165_value F165_coder ge_b165 HB.b) e165 (by rw [hml]; rfl) (lenOf pd_21 rfl) rfl (Nat.le_of_eq rfl) (hb hby d38_35) (by decide) (by decide) (by decide) (by decide) ?_
  intro v166 T166 L166 X166 hQ166
  obtain ⟨rfl, Nq166, K166, Fc166_0, Fc166_1⟩ := hQ166
  have N166 := Fr.app N164 Nq166
  exact own_retA X166 hx hlk hret rfl rfl (hb hby d38_38) (by decide) (by decide) (⟨⟨b165, rfl, r2, nb2, g2, zc, (A165.keep K166), Fc166_0, Fc166_1, ((VR2.ext E165).keep K166 (ninS ne165_r2 nin0)), HB⟩, N166, (Keep.trans (Keep.ext (Keep.trans (Keep.refl h0 []) K163 all0) E165) K166 (allS (Or.inr sz_b165) all0))⟩)
theorem d32_0 : decode jdk_43_method_47_code 0 = .ok (.iload_n 2, 1) := by decide +kernel
theorem d32_1 : decode jdk_43_method_47_code 1 = .ok (.ifCond .ne 6, 3) := by decide +kernel
theorem d32_7 : decode jdk_43_method_47_code 7 = .ok (.new 1, 3) := by decide +kernel
theorem d32_10 : decode jdk_43_method_47_code 10 = .ok (.dup, 1) := by decide +kernel
theorem d32_11 : decode jdk_43_method_47_code 11 = .ok (.aload_n 0, 1) := by decide +kernel
theorem d32_12 : decode jdk_43_method_47_code 12 = .ok (.iload_n 1, 1) := by decide +kernel
theorem d32_13 : decode jdk_43_method_47_code 13 = .ok (.iload_n 1, 1) := by decide +kernel
theorem d32_14 : decode jdk_43_method_47_code 14 = .ok (.iload_n 2, 1) := by decide +kernel
theorem d32_15 : decode jdk_43_method_47_code 15 = .ok (.iadd, 1) := by decide +kernel
theorem d32_16 : decode jdk_43_method_47_code 16 = .ok (.invokestatic 232, 3) := by decide +kernel
theorem d32_19 : decode jdk_43_method_47_code 19 = .ok (.iconst 0, 1) := by decide +kernel
theorem d32_20 : decode jdk_43_method_47_code 20 = .ok (.invokespecial 112, 3) := by decide +kernel
theorem d32_23 : decode jdk_43_method_47_code 23 = .ok (.areturn, 1) := by decide +kernel
theorem ef_lnew1 (m : MethodId) (b : Addr) (ia : Int32) (q : Int32) : entryFrame m #[(.ref b), (.int ia), (.int q)] 3 = mkF m 0 #[.val (.ref b), .val (.int ia), .val (.int q)] [] := by first | (simp [entryFrame, mkF, argsToLocals, Value.category, maxLocals]; done) | rfl
def Q_lnew1 (Z : State) (b : Addr) (nb : Int32) (g : Nat → Value) (ia : Int32) (q : Int32) (cs : Nat → Int32) (h0 : Heap) (n0 : Nat) : Option Value → Heap → List Loc → Prop := fun v h L => (∃ x2 : Addr, v = some (.ref x2) ∧ own_Str Z h x2 q (own_sh cs ia.toInt.toNat)) ∧ Fr n0 L ∧ Keep h0 h []
set_option maxRecDepth 65536 in
set_option maxHeartbeats 40000000 in
theorem rm_lnew1 (l : Launch) (Z : State) (a0 : Array Value) (hw : ∀ d ∈ tables_1, d.before a0 Z = true) (ws : List Jvm.Cond) (b : Addr) (nb : Int32) (g : Nat → Value) (ia : Int32) (q : Int32) (cs : Nat → Int32) (h0 : Heap) (n0 : Nat) (Z0 : n0 ≤ h0.size) (VB : own_A Z h0 b .byte nb g) (H8 : own_S8 g nb.toInt cs) (hnb : nb.toInt ≤ 5) (hia : 0 ≤ ia.toInt ∧ 1 ≤ q.toInt ∧ ia.toInt + q.toInt ≤ nb.toInt) (hpr : ¬ ia.toInt = 0 ∨ ¬ ia.toInt + q.toInt = nb.toInt) :
    MetFree l (⟨"java/lang/StringLatin1", "newString", "([BII)Ljava/lang/String;"⟩ : MethodName) (head1 (Jvm.Cond.code (⟨"java/lang/StringLatin1", "newString", "([BII)Ljava/lang/String;"⟩ : MethodName) jdk_43_method_47_code 3 (some (.object "java/lang/String")) :: ws) ({ frames := 3, cells := 2, slots := 14, locals := 98 } : Room)) (fun aX U => aX = #[(.ref b), (.int ia), (.int q)] ∧ Z.Warmed39 U.vm ∧ U.heap = h0) (fun _ _ _ _ _ => True) (fun _ U o U' => ∃ v L, o = .returned v ∧ (Q_lnew1 Z b nb g ia q cs h0 n0) v U'.heap L ∧ FrameEnd U o U' L ({ frames := 3, cells := 2, slots := 14, locals := 98 } : Room).cells ({ frames := 3, cells := 2, slots := 14, locals := 98 } : Room).slots) := by
  refine own_met (Q := (Q_lnew1 Z b nb g ia q cs h0 n0)) (plainFor_of_name (x := (⟨"java/lang/StringLatin1", "newString", "([BII)Ljava/lang/String;"⟩ : MethodName)) pn_4) (fun m => ef_lnew1 m b ia q) ?_
  intro p e s m below meth cD s₁ hx hby hml hret hlk hZ hown hnm X0 e0 hs0
  have hown : s.vm.findClass "java/lang/StringLatin1" = some m.cls := hown
  have N0 := Fr.nil n0
  refine own_st (fr' := (mkF m 1 #[.val (.ref b), .val (.int ia), .val (.int q)] [(.int q)])) (fun t k => XS.iloadN X0.here hx rfl (hb hby d32_0) rfl  k) ?_
  refine own_st (fr' := (mkF m 7 #[.val (.ref b), .val (.int ia), .val (.int q)] [])) (fun t k => XS.ifYes X0.here hx rfl (pc0 := 1) (pc' := 7) rfl (hb hby d32_1) rfl ((if0 _ _).trans (own_feq (x := q) (y := (0 : Int32)) (show ¬ q.toInt = 0 from by omega)).2) (by decide) (by decide) k) ?_
  obtain ⟨T167, h167, X167, e167, E167, A167, D167, -, st167⟩ := newO X0 hx hZ hown (hw _ (List.mem_of_getElem? (i := 136) rfl)) (hw _ (List.mem_of_getElem? (i := 10) rfl)) (hw _ (List.mem_of_getElem? (i := 11) rfl)) e0 (g := (mkF m 7 #[.val (.ref b), .val (.int ia), .val (.int q)] [])) rfl (hb hby d32_7) (by decide) (by decide)
  obtain ⟨b167, g167⟩ : ∃ z, z = h0.size := ⟨_, rfl⟩
  rw [← g167] at A167 D167 st167
  have lt167_b : b < b167 := Nat.lt_of_lt_of_eq VB.lt g167.symm
  have ne167_b : b ≠ b167 := Nat.ne_of_lt lt167_b
  have ge_b167 : n0 ≤ b167 := Nat.le_trans Z0 (Nat.le_of_eq g167.symm)
  have sz_b167 : h0.size ≤ b167 := Nat.le_trans (Nat.le_refl _) (Nat.le_of_eq g167.symm)
  have F167_value : Fld Z h167 b167 "java/lang/String" "value" "[B" .null := D167 (Or.inr (hw _ (List.mem_of_getElem? (i := 24) rfl))) (ty := (.array .byte)) (by decide)
  have F167_coder : Fld Z h167 b167 "java/lang/String" "coder" "B" (.int (0 : Int32)) := D167 (Or.inr (hw _ (List.mem_of_getElem? (i := 25) rfl))) (ty := .byte) (by decide)
  refine own_st (fr' := (mkF m 10 #[.val (.ref b), .val (.int ia), .val (.int q)] [(.ref b167)])) st167 ?_
  refine own_st (fr' := (mkF m 11 #[.val (.ref b), .val (.int ia), .val (.int q)] [(.ref b167), (.ref b167)])) (fun t k => XS.dup X167.here hx rfl (hb hby d32_10) rfl rfl k) ?_
  refine own_st (fr' := (mkF m 12 #[.val (.ref b), .val (.int ia), .val (.int q)] [(.ref b), (.ref b167), (.ref b167)])) (fun t k => XS.aloadN X167.here hx rfl (hb hby d32_11) rfl rfl k) ?_
  refine own_st (fr' := (mkF m 13 #[.val (.ref b), .val (.int ia), .val (.int q)] [(.int ia), (.ref b), (.ref b167), (.ref b167)])) (fun t k => XS.iloadN X167.here hx rfl (hb hby d32_12) rfl  k) ?_
  refine own_st (fr' := (mkF m 14 #[.val (.ref b), .val (.int ia), .val (.int q)] [(.int ia), (.int ia), (.ref b), (.ref b167), (.ref b167)])) (fun t k => XS.iloadN X167.here hx rfl (hb hby d32_13) rfl  k) ?_
  refine own_st (fr' := (mkF m 15 #[.val (.ref b), .val (.int ia), .val (.int q)] [(.int q), (.int ia), (.int ia), (.ref b), (.ref b167), (.ref b167)])) (fun t k => XS.iloadN X167.here hx rfl (hb hby d32_14) rfl  k) ?_
  refine own_st (fr' := (mkF m 16 #[.val (.ref b), .val (.int ia), .val (.int q)] [(.int (ia + q)), (.int ia), (.ref b), (.ref b167), (.ref b167)])) (fun t k => XS.iadd X167.here hx rfl (hb hby d32_15) rfl k) ?_
  have s2 := c_iadd ia q
  have s3 := rng32 (ia + q)
  generalize (ia + q) = ie at s2 s3 ⊢
  have hie : ie.toInt = ia.toInt + q.toInt := by omega
  refine own_callS X167 hx hZ (y := (⟨"java/util/Arrays", "copyOfRange", "([BII)[B"⟩ : MethodName)) hown (hw _ (List.mem_of_getElem? (i := 137) rfl)) (hw _ (List.mem_of_getElem? (i := 138) rfl)) (hw _ (List.mem_of_getElem? (i := 139) rfl)) (hw _ (List.mem_of_getElem? (i := 140) rfl)) (by decide) (argsL := [(.ref b), (.int ia), (.int ie)]) (rest := [(.ref b167), (.ref b167)]) (W := 2) (rm_cr1 l Z a0 hw [] b ia ie nb g h167 n0 (Nat.le_trans Z0 E167.1) (VB.ext E167) ⟨by omega, by omega, by omega⟩ (by omega) (by omega)) e167 (by rw [hml]; rfl) (lenOf pd_19 rfl) rfl (Nat.le_of_eq rfl) (hb hby d32_16) (by decide) (by decide) (by decide) (by decide) ?_
  intro v168 T168 L168 X168 hQ168
  obtain ⟨⟨r2, g2, n2, rfl, hr2, hn2, VR2, hg2⟩, Nq168, K168⟩ := hQ168
  have N168 := Fr.app N0 Nq168
  have nex : r2 ≠ b167 := Ne.symm (Nat.ne_of_lt (Nat.lt_of_lt_of_le A167.lt hr2))
  refine own_st (fr' := (mkF m 20 #[.val (.ref b), .val (.int ia), .val (.int q)] [(.int (0 : Int32)), (.ref r2), (.ref b167), (.ref b167)])) (fun t k => XS.iconst X168.here hx rfl (hb hby d32_19) k) ?_
  refine own_callN X168 hx hZ (y := (⟨"java/lang/String", "<init>", "([BB)V"⟩ : MethodName)) hown rfl (hw _ (List.mem_of_getElem? (i := 155) rfl)) (hw _ (List.mem_of_getElem? (i := 156) rfl)) (hw _ (List.mem_of_getElem? (i := 11) rfl)) (hw _ (List.mem_of_getElem? (i := 157) rfl)) (by decide) (a := b167) (argsL := [(.ref r2), (.int (0 : Int32))]) (rest := [(.ref b167)]) (W := 1) (rm_sbb l Z a0 hw [] b167 r2 0 T168.heap n0 (Nat.le_trans (Nat.le_trans Z0 E167.1) K168.1) (A167.keep K168) (F167_value.keep K168 nin0) (F167_coder.keep K168 nin0) ge_b167 (Or.inl rfl)) rfl (by rw [hml]; rfl) (lenOf pd_21 rfl) rfl (Nat.le_of_eq rfl) (hb hby d32_20) (by decide) (by decide) (by decide) (by decide) ?_
  intro v169 T169 L169 X169 hQ169
  obtain ⟨rfl, Nq169, K169, Fc169_0, Fc169_1⟩ := hQ169
  have N169 := Fr.app N168 Nq169
  exact own_retA X169 hx hlk hret rfl rfl (hb hby d32_23) (by decide) (by decide) (⟨⟨b167, rfl, r2, n2, g2, 0, ((A167.keep K168).keep K169), Fc169_0, Fc169_1, (VR2.keep K169 (ninS nex nin0)), Or.inl ⟨rfl, by omega, H8.sub (fun i hi => hg2 i (by omega)) (by omega)⟩⟩, N169, (Keep.trans (Keep.trans (Keep.ext (Keep.refl h0 []) E167) K168 all0) K169 (allS (Or.inr sz_b167) all0))⟩)
theorem d32_4 : decode jdk_43_method_47_code 4 = .ok (.ldc 151, 2) := by decide +kernel
theorem d32_6 : decode jdk_43_method_47_code 6 = .ok (.areturn, 1) := by decide +kernel
theorem ef_lnew0 (m : MethodId) (b : Addr) (ia : Int32) : entryFrame m #[(.ref b), (.int ia), (.int (0 : Int32))] 3 = mkF m 0 #[.val (.ref b), .val (.int ia), .val (.int (0 : Int32))] [] := by first | (simp [entryFrame, mkF, argsToLocals, Value.category, maxLocals]; done) | rfl
def Q_lnew0 (Z : State) (b : Addr) (ia : Int32) (cs : Nat → Int32) (h0 : Heap) (n0 : Nat) : Option Value → Heap → List Loc → Prop := fun v h L => (∃ x2 : Addr, v = some (.ref x2) ∧ own_Str Z h x2 0 cs) ∧ Fr n0 L ∧ Keep h0 h []
set_option maxRecDepth 65536 in
set_option maxHeartbeats 40000000 in
theorem rm_lnew0 (l : Launch) (Z : State) (a0 : Array Value) (hw : ∀ d ∈ tables_1, d.before a0 Z = true) (ws : List Jvm.Cond) (b : Addr) (ia : Int32) (cs : Nat → Int32) (h0 : Heap) (n0 : Nat) (Z0 : n0 ≤ h0.size)  :
    MetFree l (⟨"java/lang/StringLatin1", "newString", "([BII)Ljava/lang/String;"⟩ : MethodName) (head1 (Jvm.Cond.code (⟨"java/lang/StringLatin1", "newString", "([BII)Ljava/lang/String;"⟩ : MethodName) jdk_43_method_47_code 3 (some (.object "java/lang/String")) :: ws) ({ frames := 0, cells := 2, slots := 4, locals := 0 } : Room)) (fun aX U => aX = #[(.ref b), (.int ia), (.int (0 : Int32))] ∧ Z.Warmed39 U.vm ∧ U.heap = h0 ∧ CHv Z own_EL U.vm h0) (fun _ _ _ _ _ => True) (fun _ U o U' => ∃ v L, o = .returned v ∧ (Q_lnew0 Z b ia cs h0 n0) v U'.heap L ∧ CHr Z own_EL U.vm U.heap U'.vm U'.heap ∧ ReturnedEndW U o U' L ({ frames := 0, cells := 2, slots := 4, locals := 0 } : Room).cells ({ frames := 0, cells := 2, slots := 4, locals := 0 } : Room).slots) := by
  refine own_metC (Q := (Q_lnew0 Z b ia cs h0 n0)) (plainFor_of_name (x := (⟨"java/lang/StringLatin1", "newString", "([BII)Ljava/lang/String;"⟩ : MethodName)) pn_4) (fun m => ef_lnew0 m b ia) ?_
  intro p e s m below meth cD s₁ hx hby hml hret hlk hZ hown hnm X0 e0 hS r0
  have hown : s.vm.findClass "java/lang/StringLatin1" = some m.cls := hown
  have N0 := Fr.nil n0
  refine own_st (fr' := (mkF m 1 #[.val (.ref b), .val (.int ia), .val (.int (0 : Int32))] [(.int (0 : Int32))])) (fun t k => XS.iloadN X0.here hx rfl (hb hby d32_0) rfl  k) ?_
  refine own_st (fr' := (mkF m 4 #[.val (.ref b), .val (.int ia), .val (.int (0 : Int32))] [])) (fun t k => XS.ifNo X0.here hx rfl (hb hby d32_1) rfl ((if0 _ _).trans (own_teq (x := (0 : Int32)) (y := (0 : Int32)) (show 0 = 0 from rfl)).2) k) ?_
  refine own_ldcE X0 hx hZ hS (Nat.le_refl _) (own_ew hw) r0 hown (hw _ (List.mem_of_getElem? (i := 181) rfl)) (own_wS hw) (by decide) e0 (hb hby d32_4) (by decide) (by decide) ?_
  intro T170 h170 vm170 la170 lb170 X170 e170 E170 hZ hown hS rc170 r170 Ea170 Fc170 Fv170 V170 Lt170 ne170
  exact own_retC X170 hx hlk hZ hS (Nat.le_refl _) (own_ew hw) r170 e170 hret rfl (Or.inr (Or.inr (Or.inr (Or.inr ⟨rfl, rfl, rfl⟩)))) (hb hby d32_6) (by decide) (by decide) (by rw [e170]; exact ⟨⟨la170, rfl, lb170, 0, _, 0, Ea170, Fv170, Fc170, V170, Or.inl ⟨rfl, rfl, fun i hi => absurd hi (by show ¬ (i : Int) < 0; omega)⟩⟩, N0, (Keep.ext (Keep.refl h0 []) E170)⟩)
def own_Hb (cs : Nat → Int32) (q a e : Int) : Prop := (∃ i : Nat, (i : Int) < q ∧ 255 < (cs i).toInt) → a < e
theorem pd_22 : parseMethodDescriptor "()I" = some ⟨[], some .int⟩ := by decide +kernel
theorem pd_23 : parseMethodDescriptor "(III)V" = some ⟨[.int, .int, .int], none⟩ := by decide +kernel
theorem pd_24 : parseMethodDescriptor "([BII)Ljava/lang/String;" = some ⟨[(.array .byte), .int, .int], some (.object "java/lang/String")⟩ := by decide +kernel
theorem d9_0 : decode jdk_42_method_92_code 0 = .ok (.aload_n 0, 1) := by decide +kernel
theorem d9_1 : decode jdk_42_method_92_code 1 = .ok (.invokevirtual 505, 3) := by decide +kernel
theorem d9_4 : decode jdk_42_method_92_code 4 = .ok (.istore_n 3, 1) := by decide +kernel
theorem d9_5 : decode jdk_42_method_92_code 5 = .ok (.iload_n 1, 1) := by decide +kernel
theorem d9_6 : decode jdk_42_method_92_code 6 = .ok (.iload_n 2, 1) := by decide +kernel
theorem d9_7 : decode jdk_42_method_92_code 7 = .ok (.iload_n 3, 1) := by decide +kernel
theorem d9_8 : decode jdk_42_method_92_code 8 = .ok (.invokestatic 521, 3) := by decide +kernel
theorem d9_11 : decode jdk_42_method_92_code 11 = .ok (.iload_n 1, 1) := by decide +kernel
theorem d9_12 : decode jdk_42_method_92_code 12 = .ok (.ifCond .ne 10, 3) := by decide +kernel
theorem d9_15 : decode jdk_42_method_92_code 15 = .ok (.iload_n 2, 1) := by decide +kernel
theorem d9_16 : decode jdk_42_method_92_code 16 = .ok (.iload_n 3, 1) := by decide +kernel
theorem d9_17 : decode jdk_42_method_92_code 17 = .ok (.if_icmp .ne 5, 3) := by decide +kernel
theorem d9_20 : decode jdk_42_method_92_code 20 = .ok (.aload_n 0, 1) := by decide +kernel
theorem d9_21 : decode jdk_42_method_92_code 21 = .ok (.areturn, 1) := by decide +kernel
theorem d9_22 : decode jdk_42_method_92_code 22 = .ok (.iload_n 2, 1) := by decide +kernel
theorem d9_23 : decode jdk_42_method_92_code 23 = .ok (.iload_n 1, 1) := by decide +kernel
theorem d9_24 : decode jdk_42_method_92_code 24 = .ok (.isub, 1) := by decide +kernel
theorem d9_25 : decode jdk_42_method_92_code 25 = .ok (.istore 4, 2) := by decide +kernel
theorem d9_27 : decode jdk_42_method_92_code 27 = .ok (.aload_n 0, 1) := by decide +kernel
theorem d9_28 : decode jdk_42_method_92_code 28 = .ok (.invokevirtual 492, 3) := by decide +kernel
theorem d9_31 : decode jdk_42_method_92_code 31 = .ok (.ifCond .eq 16, 3) := by decide +kernel
theorem d9_34 : decode jdk_42_method_92_code 34 = .ok (.aload_n 0, 1) := by decide +kernel
theorem d9_35 : decode jdk_42_method_92_code 35 = .ok (.getfield 9, 3) := by decide +kernel
theorem d9_38 : decode jdk_42_method_92_code 38 = .ok (.iload_n 1, 1) := by decide +kernel
theorem d9_39 : decode jdk_42_method_92_code 39 = .ok (.iload 4, 2) := by decide +kernel
theorem d9_41 : decode jdk_42_method_92_code 41 = .ok (.invokestatic 685, 3) := by decide +kernel
theorem d9_44 : decode jdk_42_method_92_code 44 = .ok (.goto 13, 3) := by decide +kernel
theorem d9_47 : decode jdk_42_method_92_code 47 = .ok (.aload_n 0, 1) := by decide +kernel
theorem d9_48 : decode jdk_42_method_92_code 48 = .ok (.getfield 9, 3) := by decide +kernel
theorem d9_51 : decode jdk_42_method_92_code 51 = .ok (.iload_n 1, 1) := by decide +kernel
theorem d9_52 : decode jdk_42_method_92_code 52 = .ok (.iload 4, 2) := by decide +kernel
theorem d9_54 : decode jdk_42_method_92_code 54 = .ok (.invokestatic 689, 3) := by decide +kernel
theorem d9_57 : decode jdk_42_method_92_code 57 = .ok (.areturn, 1) := by decide +kernel
theorem ef_substr (m : MethodId) (ia : Int32) (ie : Int32) : entryFrame m #[(.ref x'), (.int ia), (.int ie)] 5 = mkF m 0 #[.val (.ref x'), .val (.int ia), .val (.int ie), .unset, .unset] [] := by first | (simp [entryFrame, mkF, argsToLocals, Value.category, maxLocals]; done) | rfl
def Q_substr (Z : State) (x' : Addr) (q : Int32) (cs : Nat → Int32) (ia : Int32) (ie : Int32) (cz : Int32) (fv : Value) (h0 : Heap) (n0 : Nat) : Option Value → Heap → List Loc → Prop := fun v h L => (∃ (x2 : Addr) (il : Int32), v = some (.ref x2) ∧ il.toInt = ie.toInt - ia.toInt ∧ own_Str Z h x2 il (own_sh cs ia.toInt.toNat)) ∧ Fr n0 L ∧ Keep h0 h []
set_option maxRecDepth 65536 in
set_option maxHeartbeats 40000000 in
theorem rm_substr (l : Launch) (Z : State) (a0 : Array Value) (hw : ∀ d ∈ tables_1, d.before a0 Z = true) (ws : List Jvm.Cond) (x' : Addr) (q : Int32) (cs : Nat → Int32) (ia : Int32) (ie : Int32) (cz : Int32) (fv : Value) (h0 : Heap) (n0 : Nat) (Z0 : n0 ≤ h0.size) (P : own_Str Z h0 x' q cs) (hi : 0 ≤ ia.toInt ∧ ia.toInt ≤ ie.toInt ∧ ie.toInt ≤ q.toInt ∧ q.toInt ≤ 5) (hR : own_Rg cs) (hbig : own_Hb cs q.toInt ia.toInt ie.toInt) (S_cs : Sta Z h0 "java/lang/String" "COMPACT_STRINGS" "Z" (.int cz)) (S_fm : Sta Z h0 "jdk/internal/util/Preconditions" "SIOOBE_FORMATTER" "Ljava/util/function/BiFunction;" fv) (S_as : Sta Z h0 "java/lang/StringUTF16" "$assertionsDisabled" "Z" (.int (1 : Int32))) (S_hi : Sta Z h0 "java/lang/StringUTF16" "HI_BYTE_SHIFT" "I" (.int (0 : Int32))) (S_lo : Sta Z h0 "java/lang/StringUTF16" "LO_BYTE_SHIFT" "I" (.int (8 : Int32))) (hcz : ¬ cz.toInt = 0) (hfv : fv.isRef = true) :
    MetFree l (⟨"java/lang/String", "substring", "(II)Ljava/lang/String;"⟩ : MethodName) (head1 (Jvm.Cond.code (⟨"java/lang/String", "substring", "(II)Ljava/lang/String;"⟩ : MethodName) jdk_42_method_92_code 5 (some (.object "java/lang/String")) :: ws) ({ frames := 6, cells := 3, slots := 19, locals := 130 } : Room)) (fun aX U => aX = #[(.ref x'), (.int ia), (.int ie)] ∧ Z.Warmed39 U.vm ∧ U.heap = h0 ∧ CHv Z own_EL U.vm h0) (fun _ _ _ _ _ => True) (fun _ U o U' => ∃ v L, o = .returned v ∧ (Q_substr Z x' q cs ia ie cz fv h0 n0) v U'.heap L ∧ CHr Z own_EL U.vm U.heap U'.vm U'.heap ∧ ReturnedEndW U o U' L ({ frames := 6, cells := 3, slots := 19, locals := 130 } : Room).cells ({ frames := 6, cells := 3, slots := 19, locals := 130 } : Room).slots) := by
  refine own_metC (Q := (Q_substr Z x' q cs ia ie cz fv h0 n0)) (plainFor_of_name (x := (⟨"java/lang/String", "substring", "(II)Ljava/lang/String;"⟩ : MethodName)) pn_2) (fun m => ef_substr m ia ie) ?_
  intro p e s m below meth cD s₁ hx hby hml hret hlk hZ hown hnm X0 e0 hS r0
  have hown : s.vm.findClass "java/lang/String" = some m.cls := hown
  have N0 := Fr.nil n0
  have P1 := P
  obtain ⟨r, nb, g, cod, E0, F1, F2, VR, HB⟩ := P
  refine own_st (fr' := (mkF m 1 #[.val (.ref x'), .val (.int ia), .val (.int ie), .unset, .unset] [(.ref x')])) (fun t k => XS.aloadN X0.here hx rfl (hb hby d9_0) rfl rfl k) ?_
  refine own_callV X0 hx hZ (y := (⟨"java/lang/String", "length", "()I"⟩ : MethodName)) (z := (⟨"java/lang/String", "length", "()I"⟩ : MethodName)) hown (hw _ (List.mem_of_getElem? (i := 50) rfl)) (hw _ (List.mem_of_getElem? (i := 35) rfl)) (notFace_of_selects (args := #[]) (mvT hZ (hw _ (List.mem_of_getElem? (i := 37) rfl)))) (hw _ (List.mem_of_getElem? (i := 37) rfl)) (hw _ (List.mem_of_getElem? (i := 36) rfl)) (hw _ (List.mem_of_getElem? (i := 11) rfl)) (hw _ (List.mem_of_getElem? (i := 38) rfl)) (by decide) (a := x') (argsL := []) (rest := []) (W := 0) (rm_slen l Z a0 hw [] x' q cs cz fv h0 n0 Z0 P1 S_cs S_fm S_as S_hi S_lo hcz hfv) e0 E0 (by rw [hml]; rfl) (lenOf pd_22 rfl) rfl (Nat.le_of_eq rfl) (hb hby d9_1) (by decide) (by decide) (by decide) (by decide) ?_
  intro v171 T171 L171 X171 hQ171
  obtain ⟨rfl, Nq171, eq171⟩ := hQ171
  have N171 := Fr.app N0 Nq171
  refine own_st (fr' := (mkF m 5 #[.val (.ref x'), .val (.int ia), .val (.int ie), .val (.int q), .unset] [])) (fun t k => XS.istoreN X171.here hx rfl (hb hby d9_4) rfl  (l' := #[.val (.ref x'), .val (.int ia), .val (.int ie), .val (.int q), .unset]) rfl k) ?_
  refine own_st (fr' := (mkF m 6 #[.val (.ref x'), .val (.int ia), .val (.int ie), .val (.int q), .unset] [(.int ia)])) (fun t k => XS.iloadN X171.here hx rfl (hb hby d9_5) rfl  k) ?_
  refine own_st (fr' := (mkF m 7 #[.val (.ref x'), .val (.int ia), .val (.int ie), .val (.int q), .unset] [(.int ie), (.int ia)])) (fun t k => XS.iloadN X171.here hx rfl (hb hby d9_6) rfl  k) ?_
  refine own_st (fr' := (mkF m 8 #[.val (.ref x'), .val (.int ia), .val (.int ie), .val (.int q), .unset] [(.int q), (.int ie), (.int ia)])) (fun t k => XS.iloadN X171.here hx rfl (hb hby d9_7) rfl  k) ?_
  refine own_callS X171 hx hZ (y := (⟨"java/lang/String", "checkBoundsBeginEnd", "(III)V"⟩ : MethodName)) hown (hw _ (List.mem_of_getElem? (i := 51) rfl)) (hw _ (List.mem_of_getElem? (i := 52) rfl)) (hw _ (List.mem_of_getElem? (i := 11) rfl)) (hw _ (List.mem_of_getElem? (i := 53) rfl)) (by decide) (argsL := [(.int ia), (.int ie), (.int q)]) (rest := []) (W := 0) (rm_cbe l Z a0 hw [] ia ie q cz fv h0 n0 Z0 ⟨hi.1, hi.2.1, hi.2.2.1⟩ S_cs S_fm S_as S_hi S_lo hcz hfv) eq171 (by rw [hml]; rfl) (lenOf pd_23 rfl) rfl (Nat.le_of_eq rfl) (hb hby d9_8) (by decide) (by decide) (by decide) (by decide) ?_
  intro v172 T172 L172 X172 hQ172
  obtain ⟨rfl, Nq172, eq172⟩ := hQ172
  have N172 := Fr.app N171 Nq172
  refine own_st (fr' := (mkF m 12 #[.val (.ref x'), .val (.int ia), .val (.int ie), .val (.int q), .unset] [(.int ia)])) (fun t k => XS.iloadN X172.here hx rfl (hb hby d9_11) rfl  k) ?_
  suffices J173 : ((¬ ia.toInt = 0) ∨ (ia.toInt = 0 ∧ ¬ ie.toInt = q.toInt)) → Go p e below (.cold Z own_EL s) ({ frames := 6, cells := 3, slots := 19, locals := 130 } : Room).cells ({ frames := 6, cells := 3, slots := 19, locals := 130 } : Room).slots (Q_substr Z x' q cs ia ie cz fv h0 n0) T172 (mkF m 22 #[.val (.ref x'), .val (.int ia), .val (.int ie), .val (.int q), .unset] []) by
    by_cases ha0 : ia.toInt = 0
    · refine own_st (fr' := (mkF m 15 #[.val (.ref x'), .val (.int ia), .val (.int ie), .val (.int q), .unset] [])) (fun t k => XS.ifNo X172.here hx rfl (hb hby d9_12) rfl ((if0 _ _).trans (own_teq (x := ia) (y := (0 : Int32)) ha0).2) k) ?_
      refine own_st (fr' := (mkF m 16 #[.val (.ref x'), .val (.int ia), .val (.int ie), .val (.int q), .unset] [(.int ie)])) (fun t k => XS.iloadN X172.here hx rfl (hb hby d9_15) rfl  k) ?_
      refine own_st (fr' := (mkF m 17 #[.val (.ref x'), .val (.int ia), .val (.int ie), .val (.int q), .unset] [(.int q), (.int ie)])) (fun t k => XS.iloadN X172.here hx rfl (hb hby d9_16) rfl  k) ?_
      by_cases hae : ie.toInt = q.toInt
      · refine own_st (fr' := (mkF m 20 #[.val (.ref x'), .val (.int ia), .val (.int ie), .val (.int q), .unset] [])) (fun t k => XS.icmpNo X172.here hx rfl (hb hby d9_17) rfl (own_teq (x := ie) (y := q) hae).2 k) ?_
        refine own_st (fr' := (mkF m 21 #[.val (.ref x'), .val (.int ia), .val (.int ie), .val (.int q), .unset] [(.ref x')])) (fun t k => XS.aloadN X172.here hx rfl (hb hby d9_20) rfl rfl k) ?_
        exact own_retC X172 hx hlk hZ hS (Nat.le_refl _) (own_ew hw) r0 eq172 hret rfl (Or.inr (Or.inr (Or.inr (Or.inr ⟨rfl, rfl, rfl⟩)))) (hb hby d9_21) (by decide) (by decide) (by rw [eq172]; exact ⟨⟨x', q, rfl, by omega, by rw [show ia.toInt.toNat = 0 from by omega, own_sh0]; exact P1⟩, N172, (Keep.refl h0 [])⟩)
      · refine own_st (fr' := (mkF m 22 #[.val (.ref x'), .val (.int ia), .val (.int ie), .val (.int q), .unset] [])) (fun t k => XS.icmpYes X172.here hx rfl (pc0 := 17) (pc' := 22) rfl (hb hby d9_17) rfl (own_feq (x := ie) (y := q) hae).2 (by decide) (by decide) k) ?_
        exact J173   (Or.inr ⟨ha0, hae⟩)
    · refine own_st (fr' := (mkF m 22 #[.val (.ref x'), .val (.int ia), .val (.int ie), .val (.int q), .unset] [])) (fun t k => XS.ifYes X172.here hx rfl (pc0 := 12) (pc' := 22) rfl (hb hby d9_12) rfl ((if0 _ _).trans (own_feq (x := ia) (y := (0 : Int32)) ha0).2) (by decide) (by decide) k) ?_
      exact J173   (Or.inl ha0)
  intro hz174
  refine own_st (fr' := (mkF m 23 #[.val (.ref x'), .val (.int ia), .val (.int ie), .val (.int q), .unset] [(.int ie)])) (fun t k => XS.iloadN X172.here hx rfl (hb hby d9_22) rfl  k) ?_
  refine own_st (fr' := (mkF m 24 #[.val (.ref x'), .val (.int ia), .val (.int ie), .val (.int q), .unset] [(.int ia), (.int ie)])) (fun t k => XS.iloadN X172.here hx rfl (hb hby d9_23) rfl  k) ?_
  refine own_st (fr' := (mkF m 25 #[.val (.ref x'), .val (.int ia), .val (.int ie), .val (.int q), .unset] [(.int (ie - ia))])) (fun t k => XS.isub X172.here hx rfl (hb hby d9_24) rfl k) ?_
  refine own_st (fr' := (mkF m 27 #[.val (.ref x'), .val (.int ia), .val (.int ie), .val (.int q), .val (.int (ie - ia))] [])) (fun t k => XS.istore X172.here hx rfl (hb hby d9_25) rfl  (l' := #[.val (.ref x'), .val (.int ia), .val (.int ie), .val (.int q), .val (.int (ie - ia))]) rfl k) ?_
  refine own_st (fr' := (mkF m 28 #[.val (.ref x'), .val (.int ia), .val (.int ie), .val (.int q), .val (.int (ie - ia))] [(.ref x')])) (fun t k => XS.aloadN X172.here hx rfl (hb hby d9_27) rfl rfl k) ?_
  have s2 := c_isub ie ia
  have s3 := rng32 (ie - ia)
  generalize (ie - ia) = il at s2 s3 ⊢
  have hil : il.toInt = ie.toInt - ia.toInt := by omega
  refine own_callV X172 hx hZ (y := (⟨"java/lang/String", "isLatin1", "()Z"⟩ : MethodName)) (z := (⟨"java/lang/String", "isLatin1", "()Z"⟩ : MethodName)) hown (hw _ (List.mem_of_getElem? (i := 94) rfl)) (hw _ (List.mem_of_getElem? (i := 95) rfl)) (notFace_of_selects (args := #[]) (mvT hZ (hw _ (List.mem_of_getElem? (i := 97) rfl)))) (hw _ (List.mem_of_getElem? (i := 97) rfl)) (hw _ (List.mem_of_getElem? (i := 96) rfl)) (hw _ (List.mem_of_getElem? (i := 11) rfl)) (hw _ (List.mem_of_getElem? (i := 98) rfl)) (by decide) (a := x') (argsL := []) (rest := []) (W := 0) (rm_isl l Z a0 hw [] x' cod cz fv h0 n0 Z0 F2 HB.b S_cs S_fm S_as S_hi S_lo hcz hfv) eq172 E0 (by rw [hml]; rfl) (lenOf pd_14 rfl) rfl (Nat.le_of_eq rfl) (hb hby d9_28) (by decide) (by decide) (by decide) (by decide) ?_
  intro v175 T175 L175 X175 hQ175
  obtain ⟨⟨zl, rfl, hzl⟩, Nq175, eq175⟩ := hQ175
  have N175 := Fr.app N172 Nq175
  by_cases hzl0 : zl.toInt = 0
  · refine own_st (fr' := (mkF m 47 #[.val (.ref x'), .val (.int ia), .val (.int ie), .val (.int q), .val (.int il)] [])) (fun t k => XS.ifYes X175.here hx rfl (pc0 := 31) (pc' := 47) rfl (hb hby d9_31) rfl ((if0 _ _).trans (own_teq (x := zl) (y := (0 : Int32)) hzl0).1) (by decide) (by decide) k) ?_
    obtain ⟨hnb, H16, hlt⟩ : nb.toInt = 2 * q.toInt ∧ own_S16 g q.toInt cs ∧ ia.toInt < ie.toInt := by
      rcases hzl with ⟨-, z1⟩ | ⟨z1, -⟩
      · omega
      · rcases HB with ⟨b1, -⟩ | ⟨-, b1, b2, b3⟩
        · rw [b1] at z1; exact absurd z1 (by decide)
        · exact ⟨b1, b2, hbig b3⟩
    refine own_st (fr' := (mkF m 48 #[.val (.ref x'), .val (.int ia), .val (.int ie), .val (.int q), .val (.int il)] [(.ref x')])) (fun t k => XS.aloadN X175.here hx rfl (hb hby d9_47) rfl rfl k) ?_
    obtain ⟨T176, X176, e176, st176⟩ := getF X175 hx hZ hown (host := "") (Or.inl (hw _ (List.mem_of_getElem? (i := 28) rfl))) Via.refl eq175 F1 (g := (mkF m 48 #[.val (.ref x'), .val (.int ia), .val (.int ie), .val (.int q), .val (.int il)] [(.ref x')])) rfl rfl (hb hby d9_48)
    refine own_st (fr' := (mkF m 51 #[.val (.ref x'), .val (.int ia), .val (.int ie), .val (.int q), .val (.int il)] [(.ref r)])) st176 ?_
    refine own_st (fr' := (mkF m 52 #[.val (.ref x'), .val (.int ia), .val (.int ie), .val (.int q), .val (.int il)] [(.int ia), (.ref r)])) (fun t k => XS.iloadN X176.here hx rfl (hb hby d9_51) rfl  k) ?_
    refine own_st (fr' := (mkF m 54 #[.val (.ref x'), .val (.int ia), .val (.int ie), .val (.int q), .val (.int il)] [(.int il), (.int ia), (.ref r)])) (fun t k => XS.iload X176.here hx rfl (hb hby d9_52) rfl  k) ?_
    refine own_callS X176 hx hZ (y := (⟨"java/lang/StringUTF16", "newString", "([BII)Ljava/lang/String;"⟩ : MethodName)) hown (hw _ (List.mem_of_getElem? (i := 158) rfl)) (hw _ (List.mem_of_getElem? (i := 159) rfl)) (hw _ (List.mem_of_getElem? (i := 62) rfl)) (hw _ (List.mem_of_getElem? (i := 160) rfl)) (by decide) (argsL := [(.ref r), (.int ia), (.int il)]) (rest := []) (W := 0) (rm_unew l Z a0 hw [] r nb g q.toInt ia il cs cz fv h0 n0 Z0 VR H16 ⟨hnb, hi.2.2.2⟩ ⟨hi.1, by omega, by omega⟩ hR (by omega) (by omega) S_cs S_fm S_as S_hi S_lo hcz hfv) e176 (by rw [hml]; rfl) (lenOf pd_24 rfl) rfl (Nat.le_of_eq rfl) (hb hby d9_54) (by decide) (by decide) (by decide) (by decide) ?_
    intro v177 T177 L177 X177 hQ177
    obtain ⟨⟨x2, rfl, P2⟩, Nq177, K177⟩ := hQ177
    have N177 := Fr.app N175 Nq177
    have r178 := CHr.trans r0 (CHr.keep K177 all0 r0.1)
    exact own_retC X177 hx hlk hZ hS (Nat.le_trans (Nat.le_refl _) K177.1) (own_ew hw) r178 rfl hret rfl (Or.inr (Or.inr (Or.inr (Or.inr ⟨rfl, rfl, rfl⟩)))) (hb hby d9_57) (by decide) (by decide) (⟨⟨x2, il, rfl, hil, P2⟩, N177, (Keep.trans (Keep.refl h0 []) K177 all0)⟩)
  · refine own_st (fr' := (mkF m 34 #[.val (.ref x'), .val (.int ia), .val (.int ie), .val (.int q), .val (.int il)] [])) (fun t k => XS.ifNo X175.here hx rfl (hb hby d9_31) rfl ((if0 _ _).trans (own_feq (x := zl) (y := (0 : Int32)) hzl0).1) k) ?_
    obtain ⟨hnb, H8⟩ : nb.toInt = q.toInt ∧ own_S8 g q.toInt cs := by
      rcases hzl with ⟨z1, -⟩ | ⟨-, z1⟩
      · rcases HB with ⟨-, b1, b2⟩ | ⟨b1, -⟩
        · exact ⟨b1, b2⟩
        · rw [b1] at z1; exact absurd z1 (by decide)
      · omega
    refine own_st (fr' := (mkF m 35 #[.val (.ref x'), .val (.int ia), .val (.int ie), .val (.int q), .val (.int il)] [(.ref x')])) (fun t k => XS.aloadN X175.here hx rfl (hb hby d9_34) rfl rfl k) ?_
    obtain ⟨T179, X179, e179, st179⟩ := getF X175 hx hZ hown (host := "") (Or.inl (hw _ (List.mem_of_getElem? (i := 28) rfl))) Via.refl eq175 F1 (g := (mkF m 35 #[.val (.ref x'), .val (.int ia), .val (.int ie), .val (.int q), .val (.int il)] [(.ref x')])) rfl rfl (hb hby d9_35)
    refine own_st (fr' := (mkF m 38 #[.val (.ref x'), .val (.int ia), .val (.int ie), .val (.int q), .val (.int il)] [(.ref r)])) st179 ?_
    refine own_st (fr' := (mkF m 39 #[.val (.ref x'), .val (.int ia), .val (.int ie), .val (.int q), .val (.int il)] [(.int ia), (.ref r)])) (fun t k => XS.iloadN X179.here hx rfl (hb hby d9_38) rfl  k) ?_
    refine own_st (fr' := (mkF m 41 #[.val (.ref x'), .val (.int ia), .val (.int ie), .val (.int q), .val (.int il)] [(.int il), (.int ia), (.ref r)])) (fun t k => XS.iload X179.here hx rfl (hb hby d9_39) rfl  k) ?_
    by_cases hil0 : il.toInt = 0
    · obtain rfl : il = 0 := Int32.toInt_inj.mp (by exact hil0)
      refine own_callSC X179 hx hZ hS (Nat.le_refl _) (own_ew hw) r0 (y := (⟨"java/lang/StringLatin1", "newString", "([BII)Ljava/lang/String;"⟩ : MethodName)) hown (hw _ (List.mem_of_getElem? (i := 133) rfl)) (hw _ (List.mem_of_getElem? (i := 134) rfl)) (hw _ (List.mem_of_getElem? (i := 130) rfl)) (hw _ (List.mem_of_getElem? (i := 135) rfl)) (by decide) (argsL := [(.ref r), (.int ia), (.int (0 : Int32))]) (rest := []) (W := 0) (rm_lnew0 l Z a0 hw [] r ia (own_sh cs ia.toInt.toNat) h0 n0 Z0 ) e179  (by rw [hml]; rfl) (lenOf pd_24 rfl) rfl (Nat.le_of_eq rfl) (hb hby d9_41) (by decide) (by decide) (by decide) (by decide) ?_
      intro v180 T180 L180 vm180 X180 hQ180 hZ hown hS rc180 r180
      obtain ⟨⟨x2, rfl, P2⟩, Nq180, K180⟩ := hQ180
      have N180 := Fr.app N175 Nq180
      refine own_st (fr' := (mkF m 57 #[.val (.ref x'), .val (.int ia), .val (.int ie), .val (.int q), .val (.int (0 : Int32))] [(.ref x2)])) (fun t k => XS.goto X180.here hx rfl (pc0 := 44) (pc' := 57) rfl (hb hby d9_44) (by decide) (by decide) k) ?_
      exact own_retC X180 hx hlk hZ hS (Nat.le_refl _) (own_ew hw) r180 rfl hret rfl (Or.inr (Or.inr (Or.inr (Or.inr ⟨rfl, rfl, rfl⟩)))) (hb hby d9_57) (by decide) (by decide) (⟨⟨x2, 0, rfl, hil, P2⟩, N180, (Keep.trans (Keep.refl h0 []) K180 all0)⟩)
    · refine own_callS X179 hx hZ (y := (⟨"java/lang/StringLatin1", "newString", "([BII)Ljava/lang/String;"⟩ : MethodName)) hown (hw _ (List.mem_of_getElem? (i := 133) rfl)) (hw _ (List.mem_of_getElem? (i := 134) rfl)) (hw _ (List.mem_of_getElem? (i := 130) rfl)) (hw _ (List.mem_of_getElem? (i := 135) rfl)) (by decide) (argsL := [(.ref r), (.int ia), (.int il)]) (rest := []) (W := 0) (rm_lnew1 l Z a0 hw [] r nb g ia il cs h0 n0 Z0 VR (by rw [hnb]; exact H8) (by omega) ⟨hi.1, by omega, by omega⟩ (by omega)) e179 (by rw [hml]; rfl) (lenOf pd_24 rfl) rfl (Nat.le_of_eq rfl) (hb hby d9_41) (by decide) (by decide) (by decide) (by decide) ?_
      intro v181 T181 L181 X181 hQ181
      obtain ⟨⟨x2, rfl, P2⟩, Nq181, K181⟩ := hQ181
      have N181 := Fr.app N175 Nq181
      have r182 := CHr.trans r0 (CHr.keep K181 all0 r0.1)
      refine own_st (fr' := (mkF m 57 #[.val (.ref x'), .val (.int ia), .val (.int ie), .val (.int q), .val (.int il)] [(.ref x2)])) (fun t k => XS.goto X181.here hx rfl (pc0 := 44) (pc' := 57) rfl (hb hby d9_44) (by decide) (by decide) k) ?_
      exact own_retC X181 hx hlk hZ hS (Nat.le_trans (Nat.le_refl _) K181.1) (own_ew hw) r182 rfl hret rfl (Or.inr (Or.inr (Or.inr (Or.inr ⟨rfl, rfl, rfl⟩)))) (hb hby d9_57) (by decide) (by decide) (⟨⟨x2, il, rfl, hil, P2⟩, N181, (Keep.trans (Keep.refl h0 []) K181 all0)⟩)
def own_w (c : Int32) : Int := if c.toInt = 32 ∨ (9 ≤ c.toInt ∧ c.toInt ≤ 13) then 1 else 0
theorem own_w1 {c : Int32} (h : c.toInt = 32 ∨ (9 ≤ c.toInt ∧ c.toInt ≤ 13)) : own_w c = 1 := by unfold own_w; rw [if_pos h]
theorem own_w0 {c : Int32} (h : ¬ (c.toInt = 32 ∨ (9 ≤ c.toInt ∧ c.toInt ≤ 13))) : own_w c = 0 := by unfold own_w; rw [if_neg h]
theorem own_w01 (c : Int32) : own_w c = 0 ∨ own_w c = 1 := by unfold own_w; split <;> simp
theorem own_msk (c : Int32) (h0 : 0 ≤ c.toInt) (h1 : c.toInt ≤ 32) : ((4294983168 : Int64) &&& ((1 : Int64) <<< (c &&& 0x3f).toInt64)).toInt = 0 ↔ ¬ (c.toInt = 32 ∨ (9 ≤ c.toInt ∧ c.toInt ≤ 13)) := by
  have hc : c = Int32.ofNat c.toInt.toNat := by
    apply Int32.toInt_inj.mp
    rw [Int32.toInt_ofNat_of_lt (by omega)]; omega
  have H : ∀ k : Fin 33, ((4294983168 : Int64) &&& ((1 : Int64) <<< ((Int32.ofNat k.val) &&& 0x3f).toInt64)).toInt = 0 ↔ ¬ ((Int32.ofNat k.val).toInt = 32 ∨ (9 ≤ (Int32.ofNat k.val).toInt ∧ (Int32.ofNat k.val).toInt ≤ 13)) := by decide +kernel
  have q := H ⟨c.toInt.toNat, by omega⟩
  dsimp only at q
  rw [← hc] at q
  exact q
theorem d27_0 : decode prog_2_method_8_code 0 = .ok (.iload_n 0, 1) := by decide +kernel
theorem d27_1 : decode prog_2_method_8_code 1 = .ok (.bipush 32, 2) := by decide +kernel
theorem d27_3 : decode prog_2_method_8_code 3 = .ok (.if_icmp .gt 19, 3) := by decide +kernel
theorem d27_6 : decode prog_2_method_8_code 6 = .ok (.ldc2_w 66, 3) := by decide +kernel
theorem d27_9 : decode prog_2_method_8_code 9 = .ok (.lconst 1, 1) := by decide +kernel
theorem d27_10 : decode prog_2_method_8_code 10 = .ok (.iload_n 0, 1) := by decide +kernel
theorem d27_11 : decode prog_2_method_8_code 11 = .ok (.lshl, 1) := by decide +kernel
theorem d27_12 : decode prog_2_method_8_code 12 = .ok (.land, 1) := by decide +kernel
theorem d27_13 : decode prog_2_method_8_code 13 = .ok (.lconst 0, 1) := by decide +kernel
theorem d27_14 : decode prog_2_method_8_code 14 = .ok (.lcmp, 1) := by decide +kernel
theorem d27_15 : decode prog_2_method_8_code 15 = .ok (.ifCond .eq 7, 3) := by decide +kernel
theorem d27_18 : decode prog_2_method_8_code 18 = .ok (.iconst 1, 1) := by decide +kernel
theorem d27_19 : decode prog_2_method_8_code 19 = .ok (.goto 4, 3) := by decide +kernel
theorem d27_22 : decode prog_2_method_8_code 22 = .ok (.iconst 0, 1) := by decide +kernel
theorem d27_23 : decode prog_2_method_8_code 23 = .ok (.ireturn, 1) := by decide +kernel
theorem pn_6 : plainName "com/example/linkvouch/linkvouch/AttributeValue" = true := by first | (simp [plainName, overriddenIn]; done) | decide +kernel
theorem ef_issp (m : MethodId) (cc : Int32) : entryFrame m #[(.int cc)] 1 = mkF m 0 #[.val (.int cc)] [] := by first | (simp [entryFrame, mkF, argsToLocals, Value.category, maxLocals]; done) | rfl
def Q_issp (Z : State) (cc : Int32) (h0 : Heap) (n0 : Nat) : Option Value → Heap → List Loc → Prop := fun v h L => (∃ z : Int32, v = some (.int z) ∧ (z.toInt = own_w cc)) ∧ Fr n0 L ∧ h = h0
set_option maxRecDepth 65536 in
set_option maxHeartbeats 40000000 in
theorem rm_issp (l : Launch) (Z : State) (a0 : Array Value) (hw : ∀ d ∈ tables_1, d.before a0 Z = true) (ws : List Jvm.Cond) (cc : Int32) (h0 : Heap) (n0 : Nat) (Z0 : n0 ≤ h0.size) (hcc : 0 ≤ cc.toInt ∧ cc.toInt ≤ 65535) :
    MetFree l (⟨"com/example/linkvouch/linkvouch/AttributeValue", "isSpace", "(C)Z"⟩ : MethodName) (head1 (Jvm.Cond.code (⟨"com/example/linkvouch/linkvouch/AttributeValue", "isSpace", "(C)Z"⟩ : MethodName) prog_2_method_8_code 1 (some .boolean) :: ws) ({ frames := 0, cells := 0, slots := 0, locals := 0 } : Room)) (fun aX U => aX = #[(.int cc)] ∧ Z.Warmed39 U.vm ∧ U.heap = h0) (fun _ _ _ _ _ => True) (fun _ U o U' => ∃ v L, o = .returned v ∧ (Q_issp Z cc h0 n0) v U'.heap L ∧ FrameEnd U o U' L ({ frames := 0, cells := 0, slots := 0, locals := 0 } : Room).cells ({ frames := 0, cells := 0, slots := 0, locals := 0 } : Room).slots) := by
  refine own_met (Q := (Q_issp Z cc h0 n0)) (plainFor_of_name (x := (⟨"com/example/linkvouch/linkvouch/AttributeValue", "isSpace", "(C)Z"⟩ : MethodName)) pn_6) (fun m => ef_issp m cc) ?_
  intro p e s m below meth cD s₁ hx hby hml hret hlk hZ hown hnm X0 e0 hs0
  have hown : s.vm.findClass "com/example/linkvouch/linkvouch/AttributeValue" = some m.cls := hown
  have N0 := Fr.nil n0
  refine own_st (fr' := (mkF m 1 #[.val (.int cc)] [(.int cc)])) (fun t k => XS.iloadN X0.here hx rfl (hb hby d27_0) rfl  k) ?_
  refine own_st (fr' := (mkF m 3 #[.val (.int cc)] [(.int (32 : Int32)), (.int cc)])) (fun t k => XS.bipush X0.here hx rfl (hb hby d27_1) k) ?_
  by_cases hg : 32 < cc.toInt
  · refine own_st (fr' := (mkF m 22 #[.val (.int cc)] [])) (fun t k => XS.icmpYes X0.here hx rfl (pc0 := 3) (pc' := 22) rfl (hb hby d27_3) rfl (own_tlt (x := (32 : Int32)) (y := cc) hg).2.2.1 (by decide) (by decide) k) ?_
    refine own_st (fr' := (mkF m 23 #[.val (.int cc)] [(.int (0 : Int32))])) (fun t k => XS.iconst X0.here hx rfl (hb hby d27_22) k) ?_
    exact own_retZ X0 hx hlk hret (Or.inl rfl) (hb hby d27_23) (by decide) (by decide) (⟨⟨_, rfl, (own_w0 (by omega)).symm⟩, N0, e0⟩)
  · refine own_st (fr' := (mkF m 6 #[.val (.int cc)] [])) (fun t k => XS.icmpNo X0.here hx rfl (hb hby d27_3) rfl (own_flt (x := (32 : Int32)) (y := cc) hg).2.2.1 k) ?_
    refine own_st (fr' := (mkF m 9 #[.val (.int cc)] [(.long (4294983168 : Int64))])) (fun t k => X0.ldc2Long hx hown (mvT hZ (hw _ (List.mem_of_getElem? (i := 117) rfl))) (g := (mkF m 6 #[.val (.int cc)] [])) rfl (hb hby d27_6) t k) ?_
    refine own_st (fr' := (mkF m 10 #[.val (.int cc)] [(.long (1 : Int64)), (.long (4294983168 : Int64))])) (fun t k => XS.lconst X0.here hx rfl (hb hby d27_9) k) ?_
    refine own_st (fr' := (mkF m 11 #[.val (.int cc)] [(.int cc), (.long (1 : Int64)), (.long (4294983168 : Int64))])) (fun t k => XS.iloadN X0.here hx rfl (hb hby d27_10) rfl  k) ?_
    refine own_st (fr' := (mkF m 12 #[.val (.int cc)] [(.long ((1 : Int64) <<< (cc &&& 0x3f).toInt64)), (.long (4294983168 : Int64))])) (fun t k => XS.lshl X0.here hx rfl (hb hby d27_11) rfl k) ?_
    refine own_st (fr' := (mkF m 13 #[.val (.int cc)] [(.long ((4294983168 : Int64) &&& ((1 : Int64) <<< (cc &&& 0x3f).toInt64)))])) (fun t k => XS.land X0.here hx rfl (hb hby d27_12) rfl k) ?_
    refine own_st (fr' := (mkF m 14 #[.val (.int cc)] [(.long (0 : Int64)), (.long ((4294983168 : Int64) &&& ((1 : Int64) <<< (cc &&& 0x3f).toInt64)))])) (fun t k => XS.lconst X0.here hx rfl (hb hby d27_13) k) ?_
    refine own_st (fr' := (mkF m 15 #[.val (.int cc)] [(.int (lcmpW ((4294983168 : Int64) &&& ((1 : Int64) <<< (cc &&& 0x3f).toInt64)) (0 : Int64)))])) (fun t k => XS.lcmp X0.here hx rfl (hb hby d27_14) rfl k) ?_
    by_cases hm : ((4294983168 : Int64) &&& ((1 : Int64) <<< (cc &&& 0x3f).toInt64)).toInt = 0
    · refine own_st (fr' := (mkF m 22 #[.val (.int cc)] [])) (fun t k => XS.ifYes X0.here hx rfl (pc0 := 15) (pc' := 22) rfl (hb hby d27_15) rfl (own_teqL (x := ((4294983168 : Int64) &&& ((1 : Int64) <<< (cc &&& 0x3f).toInt64))) (y := (0 : Int64)) hm).1 (by decide) (by decide) k) ?_
      refine own_st (fr' := (mkF m 23 #[.val (.int cc)] [(.int (0 : Int32))])) (fun t k => XS.iconst X0.here hx rfl (hb hby d27_22) k) ?_
      exact own_retZ X0 hx hlk hret (Or.inl rfl) (hb hby d27_23) (by decide) (by decide) (⟨⟨_, rfl, (own_w0 ((own_msk cc hcc.1 (by omega)).mp hm)).symm⟩, N0, e0⟩)
    · refine own_st (fr' := (mkF m 18 #[.val (.int cc)] [])) (fun t k => XS.ifNo X0.here hx rfl (hb hby d27_15) rfl (own_feqL (x := ((4294983168 : Int64) &&& ((1 : Int64) <<< (cc &&& 0x3f).toInt64))) (y := (0 : Int64)) hm).1 k) ?_
      refine own_st (fr' := (mkF m 19 #[.val (.int cc)] [(.int (1 : Int32))])) (fun t k => XS.iconst X0.here hx rfl (hb hby d27_18) k) ?_
      refine own_st (fr' := (mkF m 23 #[.val (.int cc)] [(.int (1 : Int32))])) (fun t k => XS.goto X0.here hx rfl (pc0 := 19) (pc' := 23) rfl (hb hby d27_19) (by decide) (by decide) k) ?_
      exact own_retZ X0 hx hlk hret (Or.inr rfl) (hb hby d27_23) (by decide) (by decide) (⟨⟨_, rfl, (own_w1 (Classical.byContradiction fun u => hm ((own_msk cc hcc.1 (by omega)).mpr u))).symm⟩, N0, e0⟩)
theorem d28_0 : decode method_5_code 0 = .ok (.iload_n 0, 1) := by decide +kernel
theorem d28_1 : decode method_5_code 1 = .ok (.bipush 32, 2) := by decide +kernel
theorem d28_3 : decode method_5_code 3 = .ok (.if_icmp .eq 33, 3) := by decide +kernel
theorem d28_6 : decode method_5_code 6 = .ok (.iload_n 0, 1) := by decide +kernel
theorem d28_7 : decode method_5_code 7 = .ok (.bipush 9, 2) := by decide +kernel
theorem d28_9 : decode method_5_code 9 = .ok (.if_icmp .eq 27, 3) := by decide +kernel
theorem d28_12 : decode method_5_code 12 = .ok (.iload_n 0, 1) := by decide +kernel
theorem d28_13 : decode method_5_code 13 = .ok (.bipush 10, 2) := by decide +kernel
theorem d28_15 : decode method_5_code 15 = .ok (.if_icmp .eq 21, 3) := by decide +kernel
theorem d28_18 : decode method_5_code 18 = .ok (.iload_n 0, 1) := by decide +kernel
theorem d28_19 : decode method_5_code 19 = .ok (.bipush 13, 2) := by decide +kernel
theorem d28_21 : decode method_5_code 21 = .ok (.if_icmp .eq 15, 3) := by decide +kernel
theorem d28_24 : decode method_5_code 24 = .ok (.iload_n 0, 1) := by decide +kernel
theorem d28_25 : decode method_5_code 25 = .ok (.bipush 11, 2) := by decide +kernel
theorem d28_27 : decode method_5_code 27 = .ok (.if_icmp .eq 9, 3) := by decide +kernel
theorem d28_30 : decode method_5_code 30 = .ok (.iload_n 0, 1) := by decide +kernel
theorem d28_31 : decode method_5_code 31 = .ok (.bipush 12, 2) := by decide +kernel
theorem d28_33 : decode method_5_code 33 = .ok (.if_icmp .ne 7, 3) := by decide +kernel
theorem d28_36 : decode method_5_code 36 = .ok (.iconst 1, 1) := by decide +kernel
theorem d28_37 : decode method_5_code 37 = .ok (.goto 4, 3) := by decide +kernel
theorem d28_40 : decode method_5_code 40 = .ok (.iconst 0, 1) := by decide +kernel
theorem d28_41 : decode method_5_code 41 = .ok (.ireturn, 1) := by decide +kernel
theorem ef_ws (m : MethodId) (cc : Int32) : entryFrame m #[(.int cc)] 1 = mkF m 0 #[.val (.int cc)] [] := by first | (simp [entryFrame, mkF, argsToLocals, Value.category, maxLocals]; done) | rfl
def Q_ws (Z : State) (cc : Int32) (h0 : Heap) (n0 : Nat) : Option Value → Heap → List Loc → Prop := fun v h L => (∃ z : Int32, v = some (.int z) ∧ (z.toInt = own_w cc)) ∧ Fr n0 L ∧ h = h0
set_option maxRecDepth 65536 in
set_option maxHeartbeats 40000000 in
theorem rm_ws (l : Launch) (Z : State) (a0 : Array Value) (hw : ∀ d ∈ tables_1, d.before a0 Z = true) (ws : List Jvm.Cond) (cc : Int32) (h0 : Heap) (n0 : Nat) (Z0 : n0 ≤ h0.size)  :
    MetFree l (⟨"com/example/linkvouch/linkvouch/AttributeValueTrimmedPinLaw", "ws", "(C)Z"⟩ : MethodName) (head1 (Jvm.Cond.code (⟨"com/example/linkvouch/linkvouch/AttributeValueTrimmedPinLaw", "ws", "(C)Z"⟩ : MethodName) method_5_code 1 (some .boolean) :: ws) ({ frames := 0, cells := 0, slots := 0, locals := 0 } : Room)) (fun aX U => aX = #[(.int cc)] ∧ Z.Warmed39 U.vm ∧ U.heap = h0) (fun _ _ _ _ _ => True) (fun _ U o U' => ∃ v L, o = .returned v ∧ (Q_ws Z cc h0 n0) v U'.heap L ∧ FrameEnd U o U' L ({ frames := 0, cells := 0, slots := 0, locals := 0 } : Room).cells ({ frames := 0, cells := 0, slots := 0, locals := 0 } : Room).slots) := by
  refine own_met (Q := (Q_ws Z cc h0 n0)) (plainFor_of_name (x := (⟨"com/example/linkvouch/linkvouch/AttributeValueTrimmedPinLaw", "ws", "(C)Z"⟩ : MethodName)) pn_1) (fun m => ef_ws m cc) ?_
  intro p e s m below meth cD s₁ hx hby hml hret hlk hZ hown hnm X0 e0 hs0
  have hown : s.vm.findClass "com/example/linkvouch/linkvouch/AttributeValueTrimmedPinLaw" = some m.cls := hown
  have N0 := Fr.nil n0
  refine own_st (fr' := (mkF m 1 #[.val (.int cc)] [(.int cc)])) (fun t k => XS.iloadN X0.here hx rfl (hb hby d28_0) rfl  k) ?_
  refine own_st (fr' := (mkF m 3 #[.val (.int cc)] [(.int (32 : Int32)), (.int cc)])) (fun t k => XS.bipush X0.here hx rfl (hb hby d28_1) k) ?_
  by_cases hc183 : cc.toInt = 32
  · refine own_st (fr' := (mkF m 36 #[.val (.int cc)] [])) (fun t k => XS.icmpYes X0.here hx rfl (pc0 := 3) (pc' := 36) rfl (hb hby d28_3) rfl (own_teq (x := cc) (y := (32 : Int32)) hc183).1 (by decide) (by decide) k) ?_
    refine own_st (fr' := (mkF m 37 #[.val (.int cc)] [(.int (1 : Int32))])) (fun t k => XS.iconst X0.here hx rfl (hb hby d28_36) k) ?_
    refine own_st (fr' := (mkF m 41 #[.val (.int cc)] [(.int (1 : Int32))])) (fun t k => XS.goto X0.here hx rfl (pc0 := 37) (pc' := 41) rfl (hb hby d28_37) (by decide) (by decide) k) ?_
    exact own_retZ X0 hx hlk hret (Or.inr rfl) (hb hby d28_41) (by decide) (by decide) (⟨⟨_, rfl, (own_w1 (by omega)).symm⟩, N0, e0⟩)
  · refine own_st (fr' := (mkF m 6 #[.val (.int cc)] [])) (fun t k => XS.icmpNo X0.here hx rfl (hb hby d28_3) rfl (own_feq (x := cc) (y := (32 : Int32)) hc183).1 k) ?_
    refine own_st (fr' := (mkF m 7 #[.val (.int cc)] [(.int cc)])) (fun t k => XS.iloadN X0.here hx rfl (hb hby d28_6) rfl  k) ?_
    refine own_st (fr' := (mkF m 9 #[.val (.int cc)] [(.int (9 : Int32)), (.int cc)])) (fun t k => XS.bipush X0.here hx rfl (hb hby d28_7) k) ?_
    by_cases hc184 : cc.toInt = 9
    · refine own_st (fr' := (mkF m 36 #[.val (.int cc)] [])) (fun t k => XS.icmpYes X0.here hx rfl (pc0 := 9) (pc' := 36) rfl (hb hby d28_9) rfl (own_teq (x := cc) (y := (9 : Int32)) hc184).1 (by decide) (by decide) k) ?_
      refine own_st (fr' := (mkF m 37 #[.val (.int cc)] [(.int (1 : Int32))])) (fun t k => XS.iconst X0.here hx rfl (hb hby d28_36) k) ?_
      refine own_st (fr' := (mkF m 41 #[.val (.int cc)] [(.int (1 : Int32))])) (fun t k => XS.goto X0.here hx rfl (pc0 := 37) (pc' := 41) rfl (hb hby d28_37) (by decide) (by decide) k) ?_
      exact own_retZ X0 hx hlk hret (Or.inr rfl) (hb hby d28_41) (by decide) (by decide) (⟨⟨_, rfl, (own_w1 (by omega)).symm⟩, N0, e0⟩)
    · refine own_st (fr' := (mkF m 12 #[.val (.int cc)] [])) (fun t k => XS.icmpNo X0.here hx rfl (hb hby d28_9) rfl (own_feq (x := cc) (y := (9 : Int32)) hc184).1 k) ?_
      refine own_st (fr' := (mkF m 13 #[.val (.int cc)] [(.int cc)])) (fun t k => XS.iloadN X0.here hx rfl (hb hby d28_12) rfl  k) ?_
      refine own_st (fr' := (mkF m 15 #[.val (.int cc)] [(.int (10 : Int32)), (.int cc)])) (fun t k => XS.bipush X0.here hx rfl (hb hby d28_13) k) ?_
      by_cases hc185 : cc.toInt = 10
      · refine own_st (fr' := (mkF m 36 #[.val (.int cc)] [])) (fun t k => XS.icmpYes X0.here hx rfl (pc0 := 15) (pc' := 36) rfl (hb hby d28_15) rfl (own_teq (x := cc) (y := (10 : Int32)) hc185).1 (by decide) (by decide) k) ?_
        refine own_st (fr' := (mkF m 37 #[.val (.int cc)] [(.int (1 : Int32))])) (fun t k => XS.iconst X0.here hx rfl (hb hby d28_36) k) ?_
        refine own_st (fr' := (mkF m 41 #[.val (.int cc)] [(.int (1 : Int32))])) (fun t k => XS.goto X0.here hx rfl (pc0 := 37) (pc' := 41) rfl (hb hby d28_37) (by decide) (by decide) k) ?_
        exact own_retZ X0 hx hlk hret (Or.inr rfl) (hb hby d28_41) (by decide) (by decide) (⟨⟨_, rfl, (own_w1 (by omega)).symm⟩, N0, e0⟩)
      · refine own_st (fr' := (mkF m 18 #[.val (.int cc)] [])) (fun t k => XS.icmpNo X0.here hx rfl (hb hby d28_15) rfl (own_feq (x := cc) (y := (10 : Int32)) hc185).1 k) ?_
        refine own_st (fr' := (mkF m 19 #[.val (.int cc)] [(.int cc)])) (fun t k => XS.iloadN X0.here hx rfl (hb hby d28_18) rfl  k) ?_
        refine own_st (fr' := (mkF m 21 #[.val (.int cc)] [(.int (13 : Int32)), (.int cc)])) (fun t k => XS.bipush X0.here hx rfl (hb hby d28_19) k) ?_
        by_cases hc186 : cc.toInt = 13
        · refine own_st (fr' := (mkF m 36 #[.val (.int cc)] [])) (fun t k => XS.icmpYes X0.here hx rfl (pc0 := 21) (pc' := 36) rfl (hb hby d28_21) rfl (own_teq (x := cc) (y := (13 : Int32)) hc186).1 (by decide) (by decide) k) ?_
          refine own_st (fr' := (mkF m 37 #[.val (.int cc)] [(.int (1 : Int32))])) (fun t k => XS.iconst X0.here hx rfl (hb hby d28_36) k) ?_
          refine own_st (fr' := (mkF m 41 #[.val (.int cc)] [(.int (1 : Int32))])) (fun t k => XS.goto X0.here hx rfl (pc0 := 37) (pc' := 41) rfl (hb hby d28_37) (by decide) (by decide) k) ?_
          exact own_retZ X0 hx hlk hret (Or.inr rfl) (hb hby d28_41) (by decide) (by decide) (⟨⟨_, rfl, (own_w1 (by omega)).symm⟩, N0, e0⟩)
        · refine own_st (fr' := (mkF m 24 #[.val (.int cc)] [])) (fun t k => XS.icmpNo X0.here hx rfl (hb hby d28_21) rfl (own_feq (x := cc) (y := (13 : Int32)) hc186).1 k) ?_
          refine own_st (fr' := (mkF m 25 #[.val (.int cc)] [(.int cc)])) (fun t k => XS.iloadN X0.here hx rfl (hb hby d28_24) rfl  k) ?_
          refine own_st (fr' := (mkF m 27 #[.val (.int cc)] [(.int (11 : Int32)), (.int cc)])) (fun t k => XS.bipush X0.here hx rfl (hb hby d28_25) k) ?_
          by_cases hc187 : cc.toInt = 11
          · refine own_st (fr' := (mkF m 36 #[.val (.int cc)] [])) (fun t k => XS.icmpYes X0.here hx rfl (pc0 := 27) (pc' := 36) rfl (hb hby d28_27) rfl (own_teq (x := cc) (y := (11 : Int32)) hc187).1 (by decide) (by decide) k) ?_
            refine own_st (fr' := (mkF m 37 #[.val (.int cc)] [(.int (1 : Int32))])) (fun t k => XS.iconst X0.here hx rfl (hb hby d28_36) k) ?_
            refine own_st (fr' := (mkF m 41 #[.val (.int cc)] [(.int (1 : Int32))])) (fun t k => XS.goto X0.here hx rfl (pc0 := 37) (pc' := 41) rfl (hb hby d28_37) (by decide) (by decide) k) ?_
            exact own_retZ X0 hx hlk hret (Or.inr rfl) (hb hby d28_41) (by decide) (by decide) (⟨⟨_, rfl, (own_w1 (by omega)).symm⟩, N0, e0⟩)
          · refine own_st (fr' := (mkF m 30 #[.val (.int cc)] [])) (fun t k => XS.icmpNo X0.here hx rfl (hb hby d28_27) rfl (own_feq (x := cc) (y := (11 : Int32)) hc187).1 k) ?_
            refine own_st (fr' := (mkF m 31 #[.val (.int cc)] [(.int cc)])) (fun t k => XS.iloadN X0.here hx rfl (hb hby d28_30) rfl  k) ?_
            refine own_st (fr' := (mkF m 33 #[.val (.int cc)] [(.int (12 : Int32)), (.int cc)])) (fun t k => XS.bipush X0.here hx rfl (hb hby d28_31) k) ?_
            by_cases hc188 : cc.toInt = 12
            · refine own_st (fr' := (mkF m 36 #[.val (.int cc)] [])) (fun t k => XS.icmpNo X0.here hx rfl (hb hby d28_33) rfl (own_teq (x := cc) (y := (12 : Int32)) hc188).2 k) ?_
              refine own_st (fr' := (mkF m 37 #[.val (.int cc)] [(.int (1 : Int32))])) (fun t k => XS.iconst X0.here hx rfl (hb hby d28_36) k) ?_
              refine own_st (fr' := (mkF m 41 #[.val (.int cc)] [(.int (1 : Int32))])) (fun t k => XS.goto X0.here hx rfl (pc0 := 37) (pc' := 41) rfl (hb hby d28_37) (by decide) (by decide) k) ?_
              exact own_retZ X0 hx hlk hret (Or.inr rfl) (hb hby d28_41) (by decide) (by decide) (⟨⟨_, rfl, (own_w1 (by omega)).symm⟩, N0, e0⟩)
            · refine own_st (fr' := (mkF m 40 #[.val (.int cc)] [])) (fun t k => XS.icmpYes X0.here hx rfl (pc0 := 33) (pc' := 40) rfl (hb hby d28_33) rfl (own_feq (x := cc) (y := (12 : Int32)) hc188).2 (by decide) (by decide) k) ?_
              refine own_st (fr' := (mkF m 41 #[.val (.int cc)] [(.int (0 : Int32))])) (fun t k => XS.iconst X0.here hx rfl (hb hby d28_40) k) ?_
              exact own_retZ X0 hx hlk hret (Or.inl rfl) (hb hby d28_41) (by decide) (by decide) (⟨⟨_, rfl, (own_w0 (by omega)).symm⟩, N0, e0⟩)
theorem own_sub1 {i : Int32} (h0 : 1 ≤ i.toInt) : (i - (1 : Int32)).toInt = i.toInt - 1 := by
  have q := c_isub i 1
  have r := rng32 (i - 1)
  have k : (1 : Int32).toInt = 1 := rfl
  have r' := rng32 i
  omega
theorem own_dec1 {i : Int32} (h0 : 1 ≤ i.toInt) : (i + (-1 : Int32)).toInt = i.toInt - 1 := by
  have q := c_iadd i (-1)
  have r := rng32 (i + (-1))
  have k : (-1 : Int32).toInt = -1 := rfl
  have r' := rng32 i
  omega
def own_T (cs : Nat → Int32) (q a e : Int) : Prop := 0 ≤ a ∧ a ≤ e ∧ e ≤ q ∧ (∀ j : Nat, (j : Int) < a → own_w (cs j) = 1) ∧ (∀ j : Nat, e ≤ (j : Int) → (j : Int) < q → own_w (cs j) = 1) ∧ (a < e → own_w (cs a.toNat) = 0 ∧ own_w (cs (e - 1).toNat) = 0)
theorem pd_25 : parseMethodDescriptor "(I)C" = some ⟨[.int], some .char⟩ := by decide +kernel
theorem pd_26 : parseMethodDescriptor "(C)Z" = some ⟨[.char], some .boolean⟩ := by decide +kernel
theorem pd_27 : parseMethodDescriptor "(II)Ljava/lang/String;" = some ⟨[.int, .int], some (.object "java/lang/String")⟩ := by decide +kernel
theorem d6_0 : decode prog_2_method_7_code 0 = .ok (.iconst 0, 1) := by decide +kernel
theorem d6_1 : decode prog_2_method_7_code 1 = .ok (.istore_n 1, 1) := by decide +kernel
theorem d6_2 : decode prog_2_method_7_code 2 = .ok (.aload_n 0, 1) := by decide +kernel
theorem d6_3 : decode prog_2_method_7_code 3 = .ok (.invokevirtual 19, 3) := by decide +kernel
theorem d6_6 : decode prog_2_method_7_code 6 = .ok (.istore_n 2, 1) := by decide +kernel
theorem d6_7 : decode prog_2_method_7_code 7 = .ok (.iload_n 1, 1) := by decide +kernel
theorem d6_8 : decode prog_2_method_7_code 8 = .ok (.iload_n 2, 1) := by decide +kernel
theorem d6_9 : decode prog_2_method_7_code 9 = .ok (.if_icmp .ge 20, 3) := by decide +kernel
theorem d6_12 : decode prog_2_method_7_code 12 = .ok (.aload_n 0, 1) := by decide +kernel
theorem d6_13 : decode prog_2_method_7_code 13 = .ok (.iload_n 1, 1) := by decide +kernel
theorem d6_14 : decode prog_2_method_7_code 14 = .ok (.invokevirtual 26, 3) := by decide +kernel
theorem d6_17 : decode prog_2_method_7_code 17 = .ok (.invokestatic 51, 3) := by decide +kernel
theorem d6_20 : decode prog_2_method_7_code 20 = .ok (.ifCond .eq 9, 3) := by decide +kernel
theorem d6_23 : decode prog_2_method_7_code 23 = .ok (.iinc 1 1, 3) := by decide +kernel
theorem d6_26 : decode prog_2_method_7_code 26 = .ok (.goto (-19), 3) := by decide +kernel
theorem d6_29 : decode prog_2_method_7_code 29 = .ok (.iload_n 2, 1) := by decide +kernel
theorem d6_30 : decode prog_2_method_7_code 30 = .ok (.iload_n 1, 1) := by decide +kernel
theorem d6_31 : decode prog_2_method_7_code 31 = .ok (.if_icmp .le 22, 3) := by decide +kernel
theorem d6_34 : decode prog_2_method_7_code 34 = .ok (.aload_n 0, 1) := by decide +kernel
theorem d6_35 : decode prog_2_method_7_code 35 = .ok (.iload_n 2, 1) := by decide +kernel
theorem d6_36 : decode prog_2_method_7_code 36 = .ok (.iconst 1, 1) := by decide +kernel
theorem d6_37 : decode prog_2_method_7_code 37 = .ok (.isub, 1) := by decide +kernel
theorem d6_38 : decode prog_2_method_7_code 38 = .ok (.invokevirtual 26, 3) := by decide +kernel
theorem d6_41 : decode prog_2_method_7_code 41 = .ok (.invokestatic 51, 3) := by decide +kernel
theorem d6_44 : decode prog_2_method_7_code 44 = .ok (.ifCond .eq 9, 3) := by decide +kernel
theorem d6_47 : decode prog_2_method_7_code 47 = .ok (.iinc 2 (-1), 3) := by decide +kernel
theorem d6_50 : decode prog_2_method_7_code 50 = .ok (.goto (-21), 3) := by decide +kernel
theorem d6_53 : decode prog_2_method_7_code 53 = .ok (.aload_n 0, 1) := by decide +kernel
theorem d6_54 : decode prog_2_method_7_code 54 = .ok (.iload_n 1, 1) := by decide +kernel
theorem d6_55 : decode prog_2_method_7_code 55 = .ok (.iload_n 2, 1) := by decide +kernel
theorem d6_56 : decode prog_2_method_7_code 56 = .ok (.invokevirtual 62, 3) := by decide +kernel
theorem d6_59 : decode prog_2_method_7_code 59 = .ok (.areturn, 1) := by decide +kernel
theorem ef_trim (m : MethodId)  : entryFrame m #[(.ref x')] 3 = mkF m 0 #[.val (.ref x'), .unset, .unset] [] := by first | (simp [entryFrame, mkF, argsToLocals, Value.category, maxLocals]; done) | rfl
def Q_trim (Z : State) (x' : Addr) (q : Int32) (cs : Nat → Int32) (cz : Int32) (fv : Value) (h0 : Heap) (n0 : Nat) : Option Value → Heap → List Loc → Prop := fun v h L => (∃ (x2 : Addr) (il : Int32) (a' e' : Int), v = some (.ref x2) ∧ il.toInt = e' - a' ∧ own_Str Z h x2 il (own_sh cs a'.toNat) ∧ own_T cs q.toInt a' e') ∧ Fr n0 L ∧ Keep h0 h []
set_option maxRecDepth 65536 in
set_option maxHeartbeats 40000000 in
theorem rm_trim (l : Launch) (Z : State) (a0 : Array Value) (hw : ∀ d ∈ tables_1, d.before a0 Z = true) (ws : List Jvm.Cond) (x' : Addr) (q : Int32) (cs : Nat → Int32) (cz : Int32) (fv : Value) (h0 : Heap) (n0 : Nat) (Z0 : n0 ≤ h0.size) (P : own_Str Z h0 x' q cs) (hq : 0 ≤ q.toInt ∧ q.toInt ≤ 5) (hR : own_Rg cs) (S_cs : Sta Z h0 "java/lang/String" "COMPACT_STRINGS" "Z" (.int cz)) (S_fm : Sta Z h0 "jdk/internal/util/Preconditions" "SIOOBE_FORMATTER" "Ljava/util/function/BiFunction;" fv) (S_as : Sta Z h0 "java/lang/StringUTF16" "$assertionsDisabled" "Z" (.int (1 : Int32))) (S_hi : Sta Z h0 "java/lang/StringUTF16" "HI_BYTE_SHIFT" "I" (.int (0 : Int32))) (S_lo : Sta Z h0 "java/lang/StringUTF16" "LO_BYTE_SHIFT" "I" (.int (8 : Int32))) (hcz : ¬ cz.toInt = 0) (hfv : fv.isRef = true) :
    MetFree l (⟨"com/example/linkvouch/linkvouch/AttributeValue", "trimmed", "(Ljava/lang/String;)Ljava/lang/String;"⟩ : MethodName) (head1 (Jvm.Cond.code (⟨"com/example/linkvouch/linkvouch/AttributeValue", "trimmed", "(Ljava/lang/String;)Ljava/lang/String;"⟩ : MethodName) prog_2_method_7_code 3 (some (.object "java/lang/String")) :: ws) ({ frames := 7, cells := 3, slots := 19, locals := 150 } : Room)) (fun aX U => aX = #[(.ref x')] ∧ Z.Warmed39 U.vm ∧ U.heap = h0 ∧ CHv Z own_EL U.vm h0) (fun _ _ _ _ _ => True) (fun _ U o U' => ∃ v L, o = .returned v ∧ (Q_trim Z x' q cs cz fv h0 n0) v U'.heap L ∧ CHr Z own_EL U.vm U.heap U'.vm U'.heap ∧ ReturnedEndW U o U' L ({ frames := 7, cells := 3, slots := 19, locals := 150 } : Room).cells ({ frames := 7, cells := 3, slots := 19, locals := 150 } : Room).slots) := by
  refine own_metC (Q := (Q_trim Z x' q cs cz fv h0 n0)) (plainFor_of_name (x := (⟨"com/example/linkvouch/linkvouch/AttributeValue", "trimmed", "(Ljava/lang/String;)Ljava/lang/String;"⟩ : MethodName)) pn_6) (fun m => ef_trim m ) ?_
  intro p e s m below meth cD s₁ hx hby hml hret hlk hZ hown hnm X0 e0 hS r0
  have hown : s.vm.findClass "com/example/linkvouch/linkvouch/AttributeValue" = some m.cls := hown
  have N0 := Fr.nil n0
  have P1 := P
  obtain ⟨r, nb, g, cod, E0, F1, F2, VR, HB⟩ := P
  refine own_st (fr' := (mkF m 1 #[.val (.ref x'), .unset, .unset] [(.int (0 : Int32))])) (fun t k => XS.iconst X0.here hx rfl (hb hby d6_0) k) ?_
  refine own_st (fr' := (mkF m 2 #[.val (.ref x'), .val (.int (0 : Int32)), .unset] [])) (fun t k => XS.istoreN X0.here hx rfl (hb hby d6_1) rfl  (l' := #[.val (.ref x'), .val (.int (0 : Int32)), .unset]) rfl k) ?_
  refine own_st (fr' := (mkF m 3 #[.val (.ref x'), .val (.int (0 : Int32)), .unset] [(.ref x')])) (fun t k => XS.aloadN X0.here hx rfl (hb hby d6_2) rfl rfl k) ?_
  refine own_callV X0 hx hZ (y := (⟨"java/lang/String", "length", "()I"⟩ : MethodName)) (z := (⟨"java/lang/String", "length", "()I"⟩ : MethodName)) hown (hw _ (List.mem_of_getElem? (i := 34) rfl)) (hw _ (List.mem_of_getElem? (i := 35) rfl)) (notFace_of_selects (args := #[]) (mvT hZ (hw _ (List.mem_of_getElem? (i := 37) rfl)))) (hw _ (List.mem_of_getElem? (i := 37) rfl)) (hw _ (List.mem_of_getElem? (i := 36) rfl)) (hw _ (List.mem_of_getElem? (i := 11) rfl)) (hw _ (List.mem_of_getElem? (i := 38) rfl)) (by decide) (a := x') (argsL := []) (rest := []) (W := 0) (rm_slen l Z a0 hw [] x' q cs cz fv h0 n0 Z0 P1 S_cs S_fm S_as S_hi S_lo hcz hfv) e0 E0 (by rw [hml]; rfl) (lenOf pd_22 rfl) rfl (Nat.le_of_eq rfl) (hb hby d6_3) (by decide) (by decide) (by decide) (by decide) ?_
  intro v189 T189 L189 X189 hQ189
  obtain ⟨rfl, Nq189, eq189⟩ := hQ189
  have N189 := Fr.app N0 Nq189
  refine own_st (fr' := (mkF m 7 #[.val (.ref x'), .val (.int (0 : Int32)), .val (.int q)] [])) (fun t k => XS.istoreN X189.here hx rfl (hb hby d6_6) rfl  (l' := #[.val (.ref x'), .val (.int (0 : Int32)), .val (.int q)]) rfl k) ?_
  suffices JM190 : ∀ (T : State) (LL : List Loc) (i : Int32), (Stand p l e ({ frames := 7, cells := 3, slots := 19, locals := 150 } : Room) (s.setVm s.vm) m #[(.ref x')] below meth cD T LL (0 + 0) (0 + 0)) → (T.heap = h0) → (Fr n0 LL) → (0 ≤ i.toInt ∧ i.toInt ≤ q.toInt ∧ (∀ j : Nat, (j : Int) < i.toInt → own_w (cs j) = 1) ∧ (i.toInt < q.toInt → own_w (cs i.toInt.toNat) = 0)) → Go p e below (.cold Z own_EL s) ({ frames := 7, cells := 3, slots := 19, locals := 150 } : Room).cells ({ frames := 7, cells := 3, slots := 19, locals := 150 } : Room).slots (Q_trim Z x' q cs cz fv h0 n0) T (mkF m 29 #[.val (.ref x'), .val (.int i), .val (.int q)] []) by
    suffices LP191 : ∀ (k : Nat) (T : State) (hh : Heap) (LL : List Loc) (i : Int32), (Stand p l e ({ frames := 7, cells := 3, slots := 19, locals := 150 } : Room) (s.setVm s.vm) m #[(.ref x')] below meth cD T LL (0 + 0) (0 + 0)) → (T.heap = hh) → (Fr n0 LL) → (hh = h0) → (i.toInt + k = q.toInt) → (0 ≤ i.toInt) → (∀ j : Nat, (j : Int) < i.toInt → own_w (cs j) = 1) → Go p e below (.cold Z own_EL s) ({ frames := 7, cells := 3, slots := 19, locals := 150 } : Room).cells ({ frames := 7, cells := 3, slots := 19, locals := 150 } : Room).slots (Q_trim Z x' q cs cz fv h0 n0) T (mkF m 7 #[.val (.ref x'), .val (.int i), .val (.int q)] []) by
      exact LP191 q.toInt.toNat _ _ _ 0 X189 eq189 N189 rfl (by show (0 : Int) + _ = _; omega) (by decide) (fun j hj => absurd hj (by show ¬ (j : Int) < 0; omega))
    intro k
    induction k with
    | zero =>
      intro T hh LL i X eT NL eh hk hi Hj
      rw [eh] at eT
      refine own_st (fr' := (mkF m 8 #[.val (.ref x'), .val (.int i), .val (.int q)] [(.int i)])) (fun t k => XS.iloadN X.here hx rfl (hb hby d6_7) rfl  k) ?_
      refine own_st (fr' := (mkF m 9 #[.val (.ref x'), .val (.int i), .val (.int q)] [(.int q), (.int i)])) (fun t k => XS.iloadN X.here hx rfl (hb hby d6_8) rfl  k) ?_
      refine own_st (fr' := (mkF m 29 #[.val (.ref x'), .val (.int i), .val (.int q)] [])) (fun t k => XS.icmpYes X.here hx rfl (pc0 := 9) (pc' := 29) rfl (hb hby d6_9) rfl (own_flt (x := i) (y := q) (show ¬ i.toInt < q.toInt from by omega)).2.1 (by decide) (by decide) k) ?_
      exact JM190 _ _ i X eT NL ⟨hi, by omega, Hj, fun u => absurd u (by omega)⟩
    | succ k ih =>
      intro T hh LL i X eT NL eh hk hi Hj
      rw [eh] at eT
      refine own_st (fr' := (mkF m 8 #[.val (.ref x'), .val (.int i), .val (.int q)] [(.int i)])) (fun t k => XS.iloadN X.here hx rfl (hb hby d6_7) rfl  k) ?_
      refine own_st (fr' := (mkF m 9 #[.val (.ref x'), .val (.int i), .val (.int q)] [(.int q), (.int i)])) (fun t k => XS.iloadN X.here hx rfl (hb hby d6_8) rfl  k) ?_
      refine own_st (fr' := (mkF m 12 #[.val (.ref x'), .val (.int i), .val (.int q)] [])) (fun t k => XS.icmpNo X.here hx rfl (hb hby d6_9) rfl (own_tlt (x := i) (y := q) (show i.toInt < q.toInt from by omega)).2.1 k) ?_
      refine own_st (fr' := (mkF m 13 #[.val (.ref x'), .val (.int i), .val (.int q)] [(.ref x')])) (fun t k => XS.aloadN X.here hx rfl (hb hby d6_12) rfl rfl k) ?_
      refine own_st (fr' := (mkF m 14 #[.val (.ref x'), .val (.int i), .val (.int q)] [(.int i), (.ref x')])) (fun t k => XS.iloadN X.here hx rfl (hb hby d6_13) rfl  k) ?_
      refine own_callV X hx hZ (y := (⟨"java/lang/String", "charAt", "(I)C"⟩ : MethodName)) (z := (⟨"java/lang/String", "charAt", "(I)C"⟩ : MethodName)) hown (hw _ (List.mem_of_getElem? (i := 89) rfl)) (hw _ (List.mem_of_getElem? (i := 90) rfl)) (notFace_of_selects (args := #[]) (mvT hZ (hw _ (List.mem_of_getElem? (i := 92) rfl)))) (hw _ (List.mem_of_getElem? (i := 92) rfl)) (hw _ (List.mem_of_getElem? (i := 91) rfl)) (hw _ (List.mem_of_getElem? (i := 11) rfl)) (hw _ (List.mem_of_getElem? (i := 93) rfl)) (by decide) (a := x') (argsL := [(.int i)]) (rest := []) (W := 0) (rm_cha l Z a0 hw [] x' q cs i cz fv h0 n0 Z0 P1 ⟨hi, by omega, hq.2⟩ hR S_cs S_fm S_as S_hi S_lo hcz hfv) eT E0 (by rw [hml]; rfl) (lenOf pd_25 rfl) rfl (Nat.le_of_eq rfl) (hb hby d6_14) (by decide) (by decide) (by decide) (by decide) ?_
      intro v192 T192 L192 X192 hQ192
      obtain ⟨rfl, Nq192, eq192⟩ := hQ192
      have N192 := Fr.app NL Nq192
      refine own_callS X192 hx hZ (y := (⟨"com/example/linkvouch/linkvouch/AttributeValue", "isSpace", "(C)Z"⟩ : MethodName)) hown (hw _ (List.mem_of_getElem? (i := 114) rfl)) (hw _ (List.mem_of_getElem? (i := 115) rfl)) (hw _ (List.mem_of_getElem? (i := 32) rfl)) (hw _ (List.mem_of_getElem? (i := 116) rfl)) (by decide) (argsL := [(.int (cs i.toInt.toNat))]) (rest := []) (W := 0) (rm_issp l Z a0 hw [] (cs i.toInt.toNat) h0 n0 Z0 (hR _)) eq192 (by rw [hml]; rfl) (lenOf pd_26 rfl) rfl (Nat.le_of_eq rfl) (hb hby d6_17) (by decide) (by decide) (by decide) (by decide) ?_
      intro v193 T193 L193 X193 hQ193
      obtain ⟨⟨zz, rfl, hzz⟩, Nq193, eq193⟩ := hQ193
      have N193 := Fr.app N192 Nq193
      have w01 := own_w01 (cs i.toInt.toNat)
      by_cases hz0 : zz.toInt = 0
      · refine own_st (fr' := (mkF m 29 #[.val (.ref x'), .val (.int i), .val (.int q)] [])) (fun t k => XS.ifYes X193.here hx rfl (pc0 := 20) (pc' := 29) rfl (hb hby d6_20) rfl ((if0 _ _).trans (own_teq (x := zz) (y := (0 : Int32)) hz0).1) (by decide) (by decide) k) ?_
        exact JM190 _ _ i X193 eq193 N193 ⟨hi, by omega, Hj, fun _ => by omega⟩
      · refine own_st (fr' := (mkF m 23 #[.val (.ref x'), .val (.int i), .val (.int q)] [])) (fun t k => XS.ifNo X193.here hx rfl (hb hby d6_20) rfl ((if0 _ _).trans (own_feq (x := zz) (y := (0 : Int32)) hz0).1) k) ?_
        refine own_st (fr' := (mkF m 26 #[.val (.ref x'), .val (.int (i + (1 : Int32))), .val (.int q)] [])) (fun t k => XS.iinc X193.here hx rfl (hb hby d6_23) rfl (l' := #[.val (.ref x'), .val (.int (i + (1 : Int32))), .val (.int q)]) rfl k) ?_
        refine own_st (fr' := (mkF m 7 #[.val (.ref x'), .val (.int (i + (1 : Int32))), .val (.int q)] [])) (fun t k => XS.goto X193.here hx rfl (pc0 := 26) (pc' := 7) rfl (hb hby d6_26) (by decide) (by decide) k) ?_
        have a1 := own_add1 (i := i) hi (by omega)
        refine ih _ _ _ (i + 1) X193 eq193 N193 rfl (by omega) (by omega) (fun j hj => ?_)
        by_cases hj2 : (j : Int) < i.toInt
        · exact Hj j hj2
        · have e1 : j = i.toInt.toNat := by omega
          subst e1; omega
  intro T190 LL190 i X190 e190 N190 hA
  obtain ⟨hi0, hiq, HA, HA0⟩ := hA
  suffices JM194 : ∀ (T : State) (LL : List Loc) (ie : Int32), (Stand p l e ({ frames := 7, cells := 3, slots := 19, locals := 150 } : Room) (s.setVm s.vm) m #[(.ref x')] below meth cD T LL (0 + 0) (0 + 0)) → (T.heap = h0) → (Fr n0 LL) → (i.toInt ≤ ie.toInt ∧ ie.toInt ≤ q.toInt ∧ (∀ j : Nat, ie.toInt ≤ (j : Int) → (j : Int) < q.toInt → own_w (cs j) = 1) ∧ (i.toInt < ie.toInt → own_w (cs (ie.toInt - 1).toNat) = 0)) → Go p e below (.cold Z own_EL s) ({ frames := 7, cells := 3, slots := 19, locals := 150 } : Room).cells ({ frames := 7, cells := 3, slots := 19, locals := 150 } : Room).slots (Q_trim Z x' q cs cz fv h0 n0) T (mkF m 53 #[.val (.ref x'), .val (.int i), .val (.int ie)] []) by
    suffices LP195 : ∀ (k : Nat) (T : State) (hh : Heap) (LL : List Loc) (ie : Int32), (Stand p l e ({ frames := 7, cells := 3, slots := 19, locals := 150 } : Room) (s.setVm s.vm) m #[(.ref x')] below meth cD T LL (0 + 0) (0 + 0)) → (T.heap = hh) → (Fr n0 LL) → (hh = h0) → (ie.toInt = i.toInt + k) → (ie.toInt ≤ q.toInt) → (∀ j : Nat, ie.toInt ≤ (j : Int) → (j : Int) < q.toInt → own_w (cs j) = 1) → Go p e below (.cold Z own_EL s) ({ frames := 7, cells := 3, slots := 19, locals := 150 } : Room).cells ({ frames := 7, cells := 3, slots := 19, locals := 150 } : Room).slots (Q_trim Z x' q cs cz fv h0 n0) T (mkF m 29 #[.val (.ref x'), .val (.int i), .val (.int ie)] []) by
      exact LP195 (q.toInt - i.toInt).toNat _ _ _ q X190 e190 N190 rfl (by omega) (by omega) (fun j u1 u2 => absurd u2 (by omega))
    intro k
    induction k with
    | zero =>
      intro T hh LL ie X eT NL eh hk hle Hj
      rw [eh] at eT
      refine own_st (fr' := (mkF m 30 #[.val (.ref x'), .val (.int i), .val (.int ie)] [(.int ie)])) (fun t k => XS.iloadN X.here hx rfl (hb hby d6_29) rfl  k) ?_
      refine own_st (fr' := (mkF m 31 #[.val (.ref x'), .val (.int i), .val (.int ie)] [(.int i), (.int ie)])) (fun t k => XS.iloadN X.here hx rfl (hb hby d6_30) rfl  k) ?_
      refine own_st (fr' := (mkF m 53 #[.val (.ref x'), .val (.int i), .val (.int ie)] [])) (fun t k => XS.icmpYes X.here hx rfl (pc0 := 31) (pc' := 53) rfl (hb hby d6_31) rfl (own_flt (x := i) (y := ie) (show ¬ i.toInt < ie.toInt from by omega)).2.2.2 (by decide) (by decide) k) ?_
      exact JM194 _ _ ie X eT NL ⟨by omega, hle, Hj, fun u => absurd u (by omega)⟩
    | succ k ih =>
      intro T hh LL ie X eT NL eh hk hle Hj
      rw [eh] at eT
      refine own_st (fr' := (mkF m 30 #[.val (.ref x'), .val (.int i), .val (.int ie)] [(.int ie)])) (fun t k => XS.iloadN X.here hx rfl (hb hby d6_29) rfl  k) ?_
      refine own_st (fr' := (mkF m 31 #[.val (.ref x'), .val (.int i), .val (.int ie)] [(.int i), (.int ie)])) (fun t k => XS.iloadN X.here hx rfl (hb hby d6_30) rfl  k) ?_
      refine own_st (fr' := (mkF m 34 #[.val (.ref x'), .val (.int i), .val (.int ie)] [])) (fun t k => XS.icmpNo X.here hx rfl (hb hby d6_31) rfl (own_tlt (x := i) (y := ie) (show i.toInt < ie.toInt from by omega)).2.2.2 k) ?_
      refine own_st (fr' := (mkF m 35 #[.val (.ref x'), .val (.int i), .val (.int ie)] [(.ref x')])) (fun t k => XS.aloadN X.here hx rfl (hb hby d6_34) rfl rfl k) ?_
      refine own_st (fr' := (mkF m 36 #[.val (.ref x'), .val (.int i), .val (.int ie)] [(.int ie), (.ref x')])) (fun t k => XS.iloadN X.here hx rfl (hb hby d6_35) rfl  k) ?_
      refine own_st (fr' := (mkF m 37 #[.val (.ref x'), .val (.int i), .val (.int ie)] [(.int (1 : Int32)), (.int ie), (.ref x')])) (fun t k => XS.iconst X.here hx rfl (hb hby d6_36) k) ?_
      refine own_st (fr' := (mkF m 38 #[.val (.ref x'), .val (.int i), .val (.int ie)] [(.int (ie - (1 : Int32))), (.ref x')])) (fun t k => XS.isub X.here hx rfl (hb hby d6_37) rfl k) ?_
      have him := own_sub1 (i := ie) (by omega)
      generalize (ie - (1 : Int32)) = im at him ⊢
      refine own_callV X hx hZ (y := (⟨"java/lang/String", "charAt", "(I)C"⟩ : MethodName)) (z := (⟨"java/lang/String", "charAt", "(I)C"⟩ : MethodName)) hown (hw _ (List.mem_of_getElem? (i := 89) rfl)) (hw _ (List.mem_of_getElem? (i := 90) rfl)) (notFace_of_selects (args := #[]) (mvT hZ (hw _ (List.mem_of_getElem? (i := 92) rfl)))) (hw _ (List.mem_of_getElem? (i := 92) rfl)) (hw _ (List.mem_of_getElem? (i := 91) rfl)) (hw _ (List.mem_of_getElem? (i := 11) rfl)) (hw _ (List.mem_of_getElem? (i := 93) rfl)) (by decide) (a := x') (argsL := [(.int im)]) (rest := []) (W := 0) (rm_cha l Z a0 hw [] x' q cs im cz fv h0 n0 Z0 P1 ⟨by omega, by omega, hq.2⟩ hR S_cs S_fm S_as S_hi S_lo hcz hfv) eT E0 (by rw [hml]; rfl) (lenOf pd_25 rfl) rfl (Nat.le_of_eq rfl) (hb hby d6_38) (by decide) (by decide) (by decide) (by decide) ?_
      intro v196 T196 L196 X196 hQ196
      obtain ⟨rfl, Nq196, eq196⟩ := hQ196
      have N196 := Fr.app NL Nq196
      refine own_callS X196 hx hZ (y := (⟨"com/example/linkvouch/linkvouch/AttributeValue", "isSpace", "(C)Z"⟩ : MethodName)) hown (hw _ (List.mem_of_getElem? (i := 114) rfl)) (hw _ (List.mem_of_getElem? (i := 115) rfl)) (hw _ (List.mem_of_getElem? (i := 32) rfl)) (hw _ (List.mem_of_getElem? (i := 116) rfl)) (by decide) (argsL := [(.int (cs im.toInt.toNat))]) (rest := []) (W := 0) (rm_issp l Z a0 hw [] (cs im.toInt.toNat) h0 n0 Z0 (hR _)) eq196 (by rw [hml]; rfl) (lenOf pd_26 rfl) rfl (Nat.le_of_eq rfl) (hb hby d6_41) (by decide) (by decide) (by decide) (by decide) ?_
      intro v197 T197 L197 X197 hQ197
      obtain ⟨⟨zz, rfl, hzz⟩, Nq197, eq197⟩ := hQ197
      have N197 := Fr.app N196 Nq197
      have w01 := own_w01 (cs im.toInt.toNat)
      by_cases hz0 : zz.toInt = 0
      · refine own_st (fr' := (mkF m 53 #[.val (.ref x'), .val (.int i), .val (.int ie)] [])) (fun t k => XS.ifYes X197.here hx rfl (pc0 := 44) (pc' := 53) rfl (hb hby d6_44) rfl ((if0 _ _).trans (own_teq (x := zz) (y := (0 : Int32)) hz0).1) (by decide) (by decide) k) ?_
        exact JM194 _ _ ie X197 eq197 N197 ⟨by omega, hle, Hj, fun _ => by rw [show (ie.toInt - 1).toNat = im.toInt.toNat from by omega]; omega⟩
      · refine own_st (fr' := (mkF m 47 #[.val (.ref x'), .val (.int i), .val (.int ie)] [])) (fun t k => XS.ifNo X197.here hx rfl (hb hby d6_44) rfl ((if0 _ _).trans (own_feq (x := zz) (y := (0 : Int32)) hz0).1) k) ?_
        refine own_st (fr' := (mkF m 50 #[.val (.ref x'), .val (.int i), .val (.int (ie + (-1 : Int32)))] [])) (fun t k => XS.iinc X197.here hx rfl (hb hby d6_47) rfl (l' := #[.val (.ref x'), .val (.int i), .val (.int (ie + (-1 : Int32)))]) rfl k) ?_
        refine own_st (fr' := (mkF m 29 #[.val (.ref x'), .val (.int i), .val (.int (ie + (-1 : Int32)))] [])) (fun t k => XS.goto X197.here hx rfl (pc0 := 50) (pc' := 29) rfl (hb hby d6_50) (by decide) (by decide) k) ?_
        have hdn := own_dec1 (i := ie) (by omega)
        generalize (ie + (-1 : Int32)) = iz at hdn ⊢
        refine ih _ _ _ iz X197 eq197 N197 rfl (by omega) (by omega) (fun j u1 u2 => ?_)
        by_cases hj2 : ie.toInt ≤ (j : Int)
        · exact Hj j hj2 u2
        · have e1 : j = im.toInt.toNat := by omega
          subst e1; omega
  intro T194 LL194 ie X194 e194 N194 hB
  obtain ⟨hb1, hb2, HC, HC0⟩ := hB
  have hbb : own_Hb cs q.toInt i.toInt ie.toInt := fun ⟨i0, u1, u2⟩ => by
    by_cases u3 : i.toInt < ie.toInt
    · exact u3
    · exfalso
      have u4 : own_w (cs i0) = 1 := by
        by_cases u5 : (i0 : Int) < i.toInt
        · exact HA i0 u5
        · exact HC i0 (by omega) u1
      have u6 : own_w (cs i0) = 0 := own_w0 (by omega)
      omega
  refine own_st (fr' := (mkF m 54 #[.val (.ref x'), .val (.int i), .val (.int ie)] [(.ref x')])) (fun t k => XS.aloadN X194.here hx rfl (hb hby d6_53) rfl rfl k) ?_
  refine own_st (fr' := (mkF m 55 #[.val (.ref x'), .val (.int i), .val (.int ie)] [(.int i), (.ref x')])) (fun t k => XS.iloadN X194.here hx rfl (hb hby d6_54) rfl  k) ?_
  refine own_st (fr' := (mkF m 56 #[.val (.ref x'), .val (.int i), .val (.int ie)] [(.int ie), (.int i), (.ref x')])) (fun t k => XS.iloadN X194.here hx rfl (hb hby d6_55) rfl  k) ?_
  refine own_callVC X194 hx hZ hS (Nat.le_refl _) (own_ew hw) r0 (y := (⟨"java/lang/String", "substring", "(II)Ljava/lang/String;"⟩ : MethodName)) (z := (⟨"java/lang/String", "substring", "(II)Ljava/lang/String;"⟩ : MethodName)) hown (hw _ (List.mem_of_getElem? (i := 45) rfl)) (hw _ (List.mem_of_getElem? (i := 46) rfl)) (notFace_of_selects (args := #[]) (mvT (s := s.setVm s.vm) hZ (hw _ (List.mem_of_getElem? (i := 48) rfl)))) (hw _ (List.mem_of_getElem? (i := 48) rfl)) (hw _ (List.mem_of_getElem? (i := 47) rfl)) (hw _ (List.mem_of_getElem? (i := 11) rfl)) (hw _ (List.mem_of_getElem? (i := 49) rfl)) (by decide) (a := x') (argsL := [(.int i), (.int ie)]) (rest := []) (W := 0) (rm_substr l Z a0 hw [] x' q cs i ie cz fv h0 n0 Z0 P1 ⟨hi0, hb1, hb2, hq.2⟩ hR hbb S_cs S_fm S_as S_hi S_lo hcz hfv) e194 E0 (by rw [hml]; rfl) (lenOf pd_27 rfl) rfl (Nat.le_of_eq rfl) (hb hby d6_56) (by decide) (by decide) (by decide) (by decide) ?_
  intro v198 T198 L198 vm198 X198 hQ198 hZ hown hS rc198 r198
  obtain ⟨⟨x2, il, rfl, hil, P2⟩, Nq198, K198⟩ := hQ198
  have N198 := Fr.app N194 Nq198
  exact own_retC X198 hx hlk hZ hS (Nat.le_refl _) (own_ew hw) r198 rfl hret rfl (Or.inr (Or.inr (Or.inr (Or.inr ⟨rfl, rfl, rfl⟩)))) (hb hby d6_59) (by decide) (by decide) (⟨⟨x2, il, i.toInt, ie.toInt, rfl, hil, P2, hi0, hb1, hb2, HA, HC, fun u => ⟨HA0 (by omega), HC0 u⟩⟩, N198, (Keep.trans (Keep.refl h0 []) K198 all0)⟩)
theorem d30_0 : decode method_4_code 0 = .ok (.iload_n 0, 1) := by decide +kernel
theorem d30_1 : decode method_4_code 1 = .ok (.ifCond .ne 5, 3) := by decide +kernel
theorem d30_4 : decode method_4_code 4 = .ok (.iload_n 1, 1) := by decide +kernel
theorem d30_5 : decode method_4_code 5 = .ok (.ireturn, 1) := by decide +kernel
theorem d30_6 : decode method_4_code 6 = .ok (.iload_n 0, 1) := by decide +kernel
theorem d30_7 : decode method_4_code 7 = .ok (.iconst 1, 1) := by decide +kernel
theorem d30_8 : decode method_4_code 8 = .ok (.if_icmp .ne 5, 3) := by decide +kernel
theorem d30_11 : decode method_4_code 11 = .ok (.iload_n 2, 1) := by decide +kernel
theorem d30_12 : decode method_4_code 12 = .ok (.ireturn, 1) := by decide +kernel
theorem d30_13 : decode method_4_code 13 = .ok (.iload_n 0, 1) := by decide +kernel
theorem d30_14 : decode method_4_code 14 = .ok (.iconst 2, 1) := by decide +kernel
theorem d30_15 : decode method_4_code 15 = .ok (.if_icmp .ne 5, 3) := by decide +kernel
theorem d30_18 : decode method_4_code 18 = .ok (.iload_n 3, 1) := by decide +kernel
theorem d30_19 : decode method_4_code 19 = .ok (.ireturn, 1) := by decide +kernel
theorem d30_20 : decode method_4_code 20 = .ok (.iload_n 0, 1) := by decide +kernel
theorem d30_21 : decode method_4_code 21 = .ok (.iconst 3, 1) := by decide +kernel
theorem d30_22 : decode method_4_code 22 = .ok (.if_icmp .ne 6, 3) := by decide +kernel
theorem d30_25 : decode method_4_code 25 = .ok (.iload 4, 2) := by decide +kernel
theorem d30_27 : decode method_4_code 27 = .ok (.ireturn, 1) := by decide +kernel
theorem d30_28 : decode method_4_code 28 = .ok (.iload 5, 2) := by decide +kernel
theorem d30_30 : decode method_4_code 30 = .ok (.ireturn, 1) := by decide +kernel
theorem ef_at (m : MethodId) (ii : Int32) (c0 : Int32) (c1 : Int32) (c2 : Int32) (c3 : Int32) (c4 : Int32) : entryFrame m #[(.int ii), (.int c0), (.int c1), (.int c2), (.int c3), (.int c4)] 6 = mkF m 0 #[.val (.int ii), .val (.int c0), .val (.int c1), .val (.int c2), .val (.int c3), .val (.int c4)] [] := by first | (simp [entryFrame, mkF, argsToLocals, Value.category, maxLocals]; done) | rfl
def Q_at (Z : State) (ii : Int32) (c0 : Int32) (c1 : Int32) (c2 : Int32) (c3 : Int32) (c4 : Int32) (h0 : Heap) (n0 : Nat) : Option Value → Heap → List Loc → Prop := fun v h L => v = some (.int ((own_cs c0 c1 c2 c3 c4) ii.toInt.toNat)) ∧ Fr n0 L ∧ h = h0
set_option maxRecDepth 65536 in
set_option maxHeartbeats 40000000 in
theorem rm_at (l : Launch) (Z : State) (a0 : Array Value) (hw : ∀ d ∈ tables_1, d.before a0 Z = true) (ws : List Jvm.Cond) (ii : Int32) (c0 : Int32) (c1 : Int32) (c2 : Int32) (c3 : Int32) (c4 : Int32) (h0 : Heap) (n0 : Nat) (Z0 : n0 ≤ h0.size) (hii : 0 ≤ ii.toInt) (hr0 : 0 ≤ c0.toInt ∧ c0.toInt ≤ 65535) (hr1 : 0 ≤ c1.toInt ∧ c1.toInt ≤ 65535) (hr2 : 0 ≤ c2.toInt ∧ c2.toInt ≤ 65535) (hr3 : 0 ≤ c3.toInt ∧ c3.toInt ≤ 65535) (hr4 : 0 ≤ c4.toInt ∧ c4.toInt ≤ 65535) :
    MetFree l (⟨"com/example/linkvouch/linkvouch/AttributeValueTrimmedPinLaw", "at", "(ICCCCC)C"⟩ : MethodName) (head1 (Jvm.Cond.code (⟨"com/example/linkvouch/linkvouch/AttributeValueTrimmedPinLaw", "at", "(ICCCCC)C"⟩ : MethodName) method_4_code 6 (some .char) :: ws) ({ frames := 0, cells := 0, slots := 0, locals := 0 } : Room)) (fun aX U => aX = #[(.int ii), (.int c0), (.int c1), (.int c2), (.int c3), (.int c4)] ∧ Z.Warmed39 U.vm ∧ U.heap = h0) (fun _ _ _ _ _ => True) (fun _ U o U' => ∃ v L, o = .returned v ∧ (Q_at Z ii c0 c1 c2 c3 c4 h0 n0) v U'.heap L ∧ FrameEnd U o U' L ({ frames := 0, cells := 0, slots := 0, locals := 0 } : Room).cells ({ frames := 0, cells := 0, slots := 0, locals := 0 } : Room).slots) := by
  refine own_met (Q := (Q_at Z ii c0 c1 c2 c3 c4 h0 n0)) (plainFor_of_name (x := (⟨"com/example/linkvouch/linkvouch/AttributeValueTrimmedPinLaw", "at", "(ICCCCC)C"⟩ : MethodName)) pn_1) (fun m => ef_at m ii c0 c1 c2 c3 c4) ?_
  intro p e s m below meth cD s₁ hx hby hml hret hlk hZ hown hnm X0 e0 hs0
  have hown : s.vm.findClass "com/example/linkvouch/linkvouch/AttributeValueTrimmedPinLaw" = some m.cls := hown
  have N0 := Fr.nil n0
  refine own_st (fr' := (mkF m 1 #[.val (.int ii), .val (.int c0), .val (.int c1), .val (.int c2), .val (.int c3), .val (.int c4)] [(.int ii)])) (fun t k => XS.iloadN X0.here hx rfl (hb hby d30_0) rfl  k) ?_
  by_cases hj0 : ii.toInt = 0
  · refine own_st (fr' := (mkF m 4 #[.val (.int ii), .val (.int c0), .val (.int c1), .val (.int c2), .val (.int c3), .val (.int c4)] [])) (fun t k => XS.ifNo X0.here hx rfl (hb hby d30_1) rfl ((if0 _ _).trans (own_teq (x := ii) (y := (0 : Int32)) hj0).2) k) ?_
    refine own_st (fr' := (mkF m 5 #[.val (.int ii), .val (.int c0), .val (.int c1), .val (.int c2), .val (.int c3), .val (.int c4)] [(.int c0)])) (fun t k => XS.iloadN X0.here hx rfl (hb hby d30_4) rfl  k) ?_
    exact own_ret X0 hx hlk hret (own_narc _ hr0.1 hr0.2) (Or.inl ⟨rfl, by simp, _, rfl⟩) (hb hby d30_5) (by decide) (by decide) (⟨by rw [show ii.toInt.toNat = 0 from by omega]; rfl, N0, e0⟩)
  · refine own_st (fr' := (mkF m 6 #[.val (.int ii), .val (.int c0), .val (.int c1), .val (.int c2), .val (.int c3), .val (.int c4)] [])) (fun t k => XS.ifYes X0.here hx rfl (pc0 := 1) (pc' := 6) rfl (hb hby d30_1) rfl ((if0 _ _).trans (own_feq (x := ii) (y := (0 : Int32)) hj0).2) (by decide) (by decide) k) ?_
    refine own_st (fr' := (mkF m 7 #[.val (.int ii), .val (.int c0), .val (.int c1), .val (.int c2), .val (.int c3), .val (.int c4)] [(.int ii)])) (fun t k => XS.iloadN X0.here hx rfl (hb hby d30_6) rfl  k) ?_
    refine own_st (fr' := (mkF m 8 #[.val (.int ii), .val (.int c0), .val (.int c1), .val (.int c2), .val (.int c3), .val (.int c4)] [(.int (1 : Int32)), (.int ii)])) (fun t k => XS.iconst X0.here hx rfl (hb hby d30_7) k) ?_
    by_cases hj1 : ii.toInt = 1
    · refine own_st (fr' := (mkF m 11 #[.val (.int ii), .val (.int c0), .val (.int c1), .val (.int c2), .val (.int c3), .val (.int c4)] [])) (fun t k => XS.icmpNo X0.here hx rfl (hb hby d30_8) rfl (own_teq (x := ii) (y := (1 : Int32)) hj1).2 k) ?_
      refine own_st (fr' := (mkF m 12 #[.val (.int ii), .val (.int c0), .val (.int c1), .val (.int c2), .val (.int c3), .val (.int c4)] [(.int c1)])) (fun t k => XS.iloadN X0.here hx rfl (hb hby d30_11) rfl  k) ?_
      exact own_ret X0 hx hlk hret (own_narc _ hr1.1 hr1.2) (Or.inl ⟨rfl, by simp, _, rfl⟩) (hb hby d30_12) (by decide) (by decide) (⟨by rw [show ii.toInt.toNat = 1 from by omega]; rfl, N0, e0⟩)
    · refine own_st (fr' := (mkF m 13 #[.val (.int ii), .val (.int c0), .val (.int c1), .val (.int c2), .val (.int c3), .val (.int c4)] [])) (fun t k => XS.icmpYes X0.here hx rfl (pc0 := 8) (pc' := 13) rfl (hb hby d30_8) rfl (own_feq (x := ii) (y := (1 : Int32)) hj1).2 (by decide) (by decide) k) ?_
      refine own_st (fr' := (mkF m 14 #[.val (.int ii), .val (.int c0), .val (.int c1), .val (.int c2), .val (.int c3), .val (.int c4)] [(.int ii)])) (fun t k => XS.iloadN X0.here hx rfl (hb hby d30_13) rfl  k) ?_
      refine own_st (fr' := (mkF m 15 #[.val (.int ii), .val (.int c0), .val (.int c1), .val (.int c2), .val (.int c3), .val (.int c4)] [(.int (2 : Int32)), (.int ii)])) (fun t k => XS.iconst X0.here hx rfl (hb hby d30_14) k) ?_
      by_cases hj2 : ii.toInt = 2
      · refine own_st (fr' := (mkF m 18 #[.val (.int ii), .val (.int c0), .val (.int c1), .val (.int c2), .val (.int c3), .val (.int c4)] [])) (fun t k => XS.icmpNo X0.here hx rfl (hb hby d30_15) rfl (own_teq (x := ii) (y := (2 : Int32)) hj2).2 k) ?_
        refine own_st (fr' := (mkF m 19 #[.val (.int ii), .val (.int c0), .val (.int c1), .val (.int c2), .val (.int c3), .val (.int c4)] [(.int c2)])) (fun t k => XS.iloadN X0.here hx rfl (hb hby d30_18) rfl  k) ?_
        exact own_ret X0 hx hlk hret (own_narc _ hr2.1 hr2.2) (Or.inl ⟨rfl, by simp, _, rfl⟩) (hb hby d30_19) (by decide) (by decide) (⟨by rw [show ii.toInt.toNat = 2 from by omega]; rfl, N0, e0⟩)
      · refine own_st (fr' := (mkF m 20 #[.val (.int ii), .val (.int c0), .val (.int c1), .val (.int c2), .val (.int c3), .val (.int c4)] [])) (fun t k => XS.icmpYes X0.here hx rfl (pc0 := 15) (pc' := 20) rfl (hb hby d30_15) rfl (own_feq (x := ii) (y := (2 : Int32)) hj2).2 (by decide) (by decide) k) ?_
        refine own_st (fr' := (mkF m 21 #[.val (.int ii), .val (.int c0), .val (.int c1), .val (.int c2), .val (.int c3), .val (.int c4)] [(.int ii)])) (fun t k => XS.iloadN X0.here hx rfl (hb hby d30_20) rfl  k) ?_
        refine own_st (fr' := (mkF m 22 #[.val (.int ii), .val (.int c0), .val (.int c1), .val (.int c2), .val (.int c3), .val (.int c4)] [(.int (3 : Int32)), (.int ii)])) (fun t k => XS.iconst X0.here hx rfl (hb hby d30_21) k) ?_
        by_cases hj3 : ii.toInt = 3
        · refine own_st (fr' := (mkF m 25 #[.val (.int ii), .val (.int c0), .val (.int c1), .val (.int c2), .val (.int c3), .val (.int c4)] [])) (fun t k => XS.icmpNo X0.here hx rfl (hb hby d30_22) rfl (own_teq (x := ii) (y := (3 : Int32)) hj3).2 k) ?_
          refine own_st (fr' := (mkF m 27 #[.val (.int ii), .val (.int c0), .val (.int c1), .val (.int c2), .val (.int c3), .val (.int c4)] [(.int c3)])) (fun t k => XS.iload X0.here hx rfl (hb hby d30_25) rfl  k) ?_
          exact own_ret X0 hx hlk hret (own_narc _ hr3.1 hr3.2) (Or.inl ⟨rfl, by simp, _, rfl⟩) (hb hby d30_27) (by decide) (by decide) (⟨by rw [show ii.toInt.toNat = 3 from by omega]; rfl, N0, e0⟩)
        · refine own_st (fr' := (mkF m 28 #[.val (.int ii), .val (.int c0), .val (.int c1), .val (.int c2), .val (.int c3), .val (.int c4)] [])) (fun t k => XS.icmpYes X0.here hx rfl (pc0 := 22) (pc' := 28) rfl (hb hby d30_22) rfl (own_feq (x := ii) (y := (3 : Int32)) hj3).2 (by decide) (by decide) k) ?_
          refine own_st (fr' := (mkF m 30 #[.val (.int ii), .val (.int c0), .val (.int c1), .val (.int c2), .val (.int c3), .val (.int c4)] [(.int c4)])) (fun t k => XS.iload X0.here hx rfl (hb hby d30_28) rfl  k) ?_
          exact own_ret X0 hx hlk hret (own_narc _ hr4.1 hr4.2) (Or.inl ⟨rfl, by simp, _, rfl⟩) (hb hby d30_30) (by decide) (by decide) (⟨by unfold own_cs; rw [if_neg (by omega), if_neg (by omega), if_neg (by omega), if_neg (by omega)], N0, e0⟩)
theorem pd_28 : parseMethodDescriptor "(ICCCCC)C" = some ⟨[.int, .char, .char, .char, .char, .char], some .char⟩ := by decide +kernel
theorem d29_0 : decode method_3_code 0 = .ok (.iload_n 1, 1) := by decide +kernel
theorem d29_1 : decode method_3_code 1 = .ok (.iload_n 2, 1) := by decide +kernel
theorem d29_2 : decode method_3_code 2 = .ok (.if_icmp .ge 27, 3) := by decide +kernel
theorem d29_5 : decode method_3_code 5 = .ok (.aload_n 0, 1) := by decide +kernel
theorem d29_6 : decode method_3_code 6 = .ok (.iload_n 1, 1) := by decide +kernel
theorem d29_7 : decode method_3_code 7 = .ok (.invokevirtual 38, 3) := by decide +kernel
theorem d29_10 : decode method_3_code 10 = .ok (.iload_n 3, 1) := by decide +kernel
theorem d29_11 : decode method_3_code 11 = .ok (.iload_n 1, 1) := by decide +kernel
theorem d29_12 : decode method_3_code 12 = .ok (.iadd, 1) := by decide +kernel
theorem d29_13 : decode method_3_code 13 = .ok (.iload 4, 2) := by decide +kernel
theorem d29_15 : decode method_3_code 15 = .ok (.iload 5, 2) := by decide +kernel
theorem d29_17 : decode method_3_code 17 = .ok (.iload 6, 2) := by decide +kernel
theorem d29_19 : decode method_3_code 19 = .ok (.iload 7, 2) := by decide +kernel
theorem d29_21 : decode method_3_code 21 = .ok (.iload 8, 2) := by decide +kernel
theorem d29_23 : decode method_3_code 23 = .ok (.invokestatic 41, 3) := by decide +kernel
theorem d29_26 : decode method_3_code 26 = .ok (.if_icmp .ne 7, 3) := by decide +kernel
theorem d29_29 : decode method_3_code 29 = .ok (.iconst 1, 1) := by decide +kernel
theorem d29_30 : decode method_3_code 30 = .ok (.goto 4, 3) := by decide +kernel
theorem d29_34 : decode method_3_code 34 = .ok (.ireturn, 1) := by decide +kernel
theorem ef_same (m : MethodId) (jj : Int32) (nn : Int32) (st : Int32) (c0 : Int32) (c1 : Int32) (c2 : Int32) (c3 : Int32) (c4 : Int32) : entryFrame m #[(.ref x'), (.int jj), (.int nn), (.int st), (.int c0), (.int c1), (.int c2), (.int c3), (.int c4)] 9 = mkF m 0 #[.val (.ref x'), .val (.int jj), .val (.int nn), .val (.int st), .val (.int c0), .val (.int c1), .val (.int c2), .val (.int c3), .val (.int c4)] [] := by first | (simp [entryFrame, mkF, argsToLocals, Value.category, maxLocals]; done) | rfl
def Q_same (Z : State) (x' : Addr) (q : Int32) (jj : Int32) (nn : Int32) (st : Int32) (c0 : Int32) (c1 : Int32) (c2 : Int32) (c3 : Int32) (c4 : Int32) (cz : Int32) (fv : Value) (h0 : Heap) (n0 : Nat) : Option Value → Heap → List Loc → Prop := fun v h L => v = some (.int 1) ∧ Fr n0 L ∧ h = h0
set_option maxRecDepth 65536 in
set_option maxHeartbeats 40000000 in
theorem rm_same (l : Launch) (Z : State) (a0 : Array Value) (hw : ∀ d ∈ tables_1, d.before a0 Z = true) (ws : List Jvm.Cond) (x' : Addr) (q : Int32) (jj : Int32) (nn : Int32) (st : Int32) (c0 : Int32) (c1 : Int32) (c2 : Int32) (c3 : Int32) (c4 : Int32) (cz : Int32) (fv : Value) (h0 : Heap) (n0 : Nat) (Z0 : n0 ≤ h0.size) (P : own_Str Z h0 x' q (own_sh (own_cs c0 c1 c2 c3 c4) st.toInt.toNat)) (hn : nn.toInt = q.toInt) (hst : 0 ≤ st.toInt ∧ st.toInt + q.toInt ≤ 5) (hjj : 0 ≤ jj.toInt ∧ jj.toInt ≤ 4) (hr0 : 0 ≤ c0.toInt ∧ c0.toInt ≤ 65535) (hr1 : 0 ≤ c1.toInt ∧ c1.toInt ≤ 65535) (hr2 : 0 ≤ c2.toInt ∧ c2.toInt ≤ 65535) (hr3 : 0 ≤ c3.toInt ∧ c3.toInt ≤ 65535) (hr4 : 0 ≤ c4.toInt ∧ c4.toInt ≤ 65535) (S_cs : Sta Z h0 "java/lang/String" "COMPACT_STRINGS" "Z" (.int cz)) (S_fm : Sta Z h0 "jdk/internal/util/Preconditions" "SIOOBE_FORMATTER" "Ljava/util/function/BiFunction;" fv) (S_as : Sta Z h0 "java/lang/StringUTF16" "$assertionsDisabled" "Z" (.int (1 : Int32))) (S_hi : Sta Z h0 "java/lang/StringUTF16" "HI_BYTE_SHIFT" "I" (.int (0 : Int32))) (S_lo : Sta Z h0 "java/lang/StringUTF16" "LO_BYTE_SHIFT" "I" (.int (8 : Int32))) (hcz : ¬ cz.toInt = 0) (hfv : fv.isRef = true) :
    MetFree l (⟨"com/example/linkvouch/linkvouch/AttributeValueTrimmedPinLaw", "same", "(Ljava/lang/String;IIICCCCC)Z"⟩ : MethodName) (head1 (Jvm.Cond.code (⟨"com/example/linkvouch/linkvouch/AttributeValueTrimmedPinLaw", "same", "(Ljava/lang/String;IIICCCCC)Z"⟩ : MethodName) method_3_code 9 (some .boolean) :: ws) ({ frames := 5, cells := 0, slots := 0, locals := 66 } : Room)) (fun aX U => aX = #[(.ref x'), (.int jj), (.int nn), (.int st), (.int c0), (.int c1), (.int c2), (.int c3), (.int c4)] ∧ Z.Warmed39 U.vm ∧ U.heap = h0) (fun _ _ _ _ _ => True) (fun _ U o U' => ∃ v L, o = .returned v ∧ (Q_same Z x' q jj nn st c0 c1 c2 c3 c4 cz fv h0 n0) v U'.heap L ∧ FrameEnd U o U' L ({ frames := 5, cells := 0, slots := 0, locals := 66 } : Room).cells ({ frames := 5, cells := 0, slots := 0, locals := 66 } : Room).slots) := by
  refine own_met (Q := (Q_same Z x' q jj nn st c0 c1 c2 c3 c4 cz fv h0 n0)) (plainFor_of_name (x := (⟨"com/example/linkvouch/linkvouch/AttributeValueTrimmedPinLaw", "same", "(Ljava/lang/String;IIICCCCC)Z"⟩ : MethodName)) pn_1) (fun m => ef_same m jj nn st c0 c1 c2 c3 c4) ?_
  intro p e s m below meth cD s₁ hx hby hml hret hlk hZ hown hnm X0 e0 hs0
  have hown : s.vm.findClass "com/example/linkvouch/linkvouch/AttributeValueTrimmedPinLaw" = some m.cls := hown
  have N0 := Fr.nil n0
  have P1 := P
  obtain ⟨r, nb, g, cod, E0, F1, F2, VR, HB⟩ := P
  refine own_st (fr' := (mkF m 1 #[.val (.ref x'), .val (.int jj), .val (.int nn), .val (.int st), .val (.int c0), .val (.int c1), .val (.int c2), .val (.int c3), .val (.int c4)] [(.int jj)])) (fun t k => XS.iloadN X0.here hx rfl (hb hby d29_0) rfl  k) ?_
  refine own_st (fr' := (mkF m 2 #[.val (.ref x'), .val (.int jj), .val (.int nn), .val (.int st), .val (.int c0), .val (.int c1), .val (.int c2), .val (.int c3), .val (.int c4)] [(.int nn), (.int jj)])) (fun t k => XS.iloadN X0.here hx rfl (hb hby d29_1) rfl  k) ?_
  by_cases hl : jj.toInt < nn.toInt
  · refine own_st (fr' := (mkF m 5 #[.val (.ref x'), .val (.int jj), .val (.int nn), .val (.int st), .val (.int c0), .val (.int c1), .val (.int c2), .val (.int c3), .val (.int c4)] [])) (fun t k => XS.icmpNo X0.here hx rfl (hb hby d29_2) rfl (own_tlt (x := jj) (y := nn) hl).2.1 k) ?_
    refine own_st (fr' := (mkF m 6 #[.val (.ref x'), .val (.int jj), .val (.int nn), .val (.int st), .val (.int c0), .val (.int c1), .val (.int c2), .val (.int c3), .val (.int c4)] [(.ref x')])) (fun t k => XS.aloadN X0.here hx rfl (hb hby d29_5) rfl rfl k) ?_
    refine own_st (fr' := (mkF m 7 #[.val (.ref x'), .val (.int jj), .val (.int nn), .val (.int st), .val (.int c0), .val (.int c1), .val (.int c2), .val (.int c3), .val (.int c4)] [(.int jj), (.ref x')])) (fun t k => XS.iloadN X0.here hx rfl (hb hby d29_6) rfl  k) ?_
    have hRs : own_Rg (own_sh (own_cs c0 c1 c2 c3 c4) st.toInt.toNat) := fun i => own_csR hr0 hr1 hr2 hr3 hr4 _
    refine own_callV X0 hx hZ (y := (⟨"java/lang/String", "charAt", "(I)C"⟩ : MethodName)) (z := (⟨"java/lang/String", "charAt", "(I)C"⟩ : MethodName)) hown (hw _ (List.mem_of_getElem? (i := 124) rfl)) (hw _ (List.mem_of_getElem? (i := 90) rfl)) (notFace_of_selects (args := #[]) (mvT hZ (hw _ (List.mem_of_getElem? (i := 92) rfl)))) (hw _ (List.mem_of_getElem? (i := 92) rfl)) (hw _ (List.mem_of_getElem? (i := 91) rfl)) (hw _ (List.mem_of_getElem? (i := 11) rfl)) (hw _ (List.mem_of_getElem? (i := 93) rfl)) (by decide) (a := x') (argsL := [(.int jj)]) (rest := []) (W := 0) (rm_cha l Z a0 hw [] x' q (own_sh (own_cs c0 c1 c2 c3 c4) st.toInt.toNat) jj cz fv h0 n0 Z0 P1 ⟨hjj.1, by omega, by omega⟩ hRs S_cs S_fm S_as S_hi S_lo hcz hfv) e0 E0 (by rw [hml]; rfl) (lenOf pd_25 rfl) rfl (Nat.le_of_eq rfl) (hb hby d29_7) (by decide) (by decide) (by decide) (by decide) ?_
    intro v199 T199 L199 X199 hQ199
    obtain ⟨rfl, Nq199, eq199⟩ := hQ199
    have N199 := Fr.app N0 Nq199
    refine own_st (fr' := (mkF m 11 #[.val (.ref x'), .val (.int jj), .val (.int nn), .val (.int st), .val (.int c0), .val (.int c1), .val (.int c2), .val (.int c3), .val (.int c4)] [(.int st), (.int ((own_sh (own_cs c0 c1 c2 c3 c4) st.toInt.toNat) jj.toInt.toNat))])) (fun t k => XS.iloadN X199.here hx rfl (hb hby d29_10) rfl  k) ?_
    refine own_st (fr' := (mkF m 12 #[.val (.ref x'), .val (.int jj), .val (.int nn), .val (.int st), .val (.int c0), .val (.int c1), .val (.int c2), .val (.int c3), .val (.int c4)] [(.int jj), (.int st), (.int ((own_sh (own_cs c0 c1 c2 c3 c4) st.toInt.toNat) jj.toInt.toNat))])) (fun t k => XS.iloadN X199.here hx rfl (hb hby d29_11) rfl  k) ?_
    refine own_st (fr' := (mkF m 13 #[.val (.ref x'), .val (.int jj), .val (.int nn), .val (.int st), .val (.int c0), .val (.int c1), .val (.int c2), .val (.int c3), .val (.int c4)] [(.int (st + jj)), (.int ((own_sh (own_cs c0 c1 c2 c3 c4) st.toInt.toNat) jj.toInt.toNat))])) (fun t k => XS.iadd X199.here hx rfl (hb hby d29_12) rfl k) ?_
    refine own_st (fr' := (mkF m 15 #[.val (.ref x'), .val (.int jj), .val (.int nn), .val (.int st), .val (.int c0), .val (.int c1), .val (.int c2), .val (.int c3), .val (.int c4)] [(.int c0), (.int (st + jj)), (.int ((own_sh (own_cs c0 c1 c2 c3 c4) st.toInt.toNat) jj.toInt.toNat))])) (fun t k => XS.iload X199.here hx rfl (hb hby d29_13) rfl  k) ?_
    refine own_st (fr' := (mkF m 17 #[.val (.ref x'), .val (.int jj), .val (.int nn), .val (.int st), .val (.int c0), .val (.int c1), .val (.int c2), .val (.int c3), .val (.int c4)] [(.int c1), (.int c0), (.int (st + jj)), (.int ((own_sh (own_cs c0 c1 c2 c3 c4) st.toInt.toNat) jj.toInt.toNat))])) (fun t k => XS.iload X199.here hx rfl (hb hby d29_15) rfl  k) ?_
    refine own_st (fr' := (mkF m 19 #[.val (.ref x'), .val (.int jj), .val (.int nn), .val (.int st), .val (.int c0), .val (.int c1), .val (.int c2), .val (.int c3), .val (.int c4)] [(.int c2), (.int c1), (.int c0), (.int (st + jj)), (.int ((own_sh (own_cs c0 c1 c2 c3 c4) st.toInt.toNat) jj.toInt.toNat))])) (fun t k => XS.iload X199.here hx rfl (hb hby d29_17) rfl  k) ?_
    refine own_st (fr' := (mkF m 21 #[.val (.ref x'), .val (.int jj), .val (.int nn), .val (.int st), .val (.int c0), .val (.int c1), .val (.int c2), .val (.int c3), .val (.int c4)] [(.int c3), (.int c2), (.int c1), (.int c0), (.int (st + jj)), (.int ((own_sh (own_cs c0 c1 c2 c3 c4) st.toInt.toNat) jj.toInt.toNat))])) (fun t k => XS.iload X199.here hx rfl (hb hby d29_19) rfl  k) ?_
    refine own_st (fr' := (mkF m 23 #[.val (.ref x'), .val (.int jj), .val (.int nn), .val (.int st), .val (.int c0), .val (.int c1), .val (.int c2), .val (.int c3), .val (.int c4)] [(.int c4), (.int c3), (.int c2), (.int c1), (.int c0), (.int (st + jj)), (.int ((own_sh (own_cs c0 c1 c2 c3 c4) st.toInt.toNat) jj.toInt.toNat))])) (fun t k => XS.iload X199.here hx rfl (hb hby d29_21) rfl  k) ?_
    have s2 := c_iadd st jj
    have s3 := rng32 (st + jj)
    generalize (st + jj) = sj at s2 s3 ⊢
    have hsj : sj.toInt = st.toInt + jj.toInt := by omega
    refine own_callS X199 hx hZ (y := (⟨"com/example/linkvouch/linkvouch/AttributeValueTrimmedPinLaw", "at", "(ICCCCC)C"⟩ : MethodName)) hown (hw _ (List.mem_of_getElem? (i := 125) rfl)) (hw _ (List.mem_of_getElem? (i := 126) rfl)) (hw _ (List.mem_of_getElem? (i := 3) rfl)) (hw _ (List.mem_of_getElem? (i := 127) rfl)) (by decide) (argsL := [(.int sj), (.int c0), (.int c1), (.int c2), (.int c3), (.int c4)]) (rest := [(.int ((own_sh (own_cs c0 c1 c2 c3 c4) st.toInt.toNat) jj.toInt.toNat))]) (W := 1) (rm_at l Z a0 hw [] sj c0 c1 c2 c3 c4 h0 n0 Z0 (by omega) hr0 hr1 hr2 hr3 hr4) eq199 (by rw [hml]; rfl) (lenOf pd_28 rfl) rfl (Nat.le_of_eq rfl) (hb hby d29_23) (by decide) (by decide) (by decide) (by decide) ?_
    intro v200 T200 L200 X200 hQ200
    obtain ⟨rfl, Nq200, eq200⟩ := hQ200
    have N200 := Fr.app N199 Nq200
    refine own_st (fr' := (mkF m 29 #[.val (.ref x'), .val (.int jj), .val (.int nn), .val (.int st), .val (.int c0), .val (.int c1), .val (.int c2), .val (.int c3), .val (.int c4)] [])) (fun t k => XS.icmpNo X200.here hx rfl (hb hby d29_26) rfl (own_teq (x := ((own_sh (own_cs c0 c1 c2 c3 c4) st.toInt.toNat) jj.toInt.toNat)) (y := ((own_cs c0 c1 c2 c3 c4) sj.toInt.toNat)) (show ((own_sh (own_cs c0 c1 c2 c3 c4) st.toInt.toNat) jj.toInt.toNat).toInt = ((own_cs c0 c1 c2 c3 c4) sj.toInt.toNat).toInt from by rw [show sj.toInt.toNat = st.toInt.toNat + jj.toInt.toNat from by omega]; rfl)).2 k) ?_
    refine own_st (fr' := (mkF m 30 #[.val (.ref x'), .val (.int jj), .val (.int nn), .val (.int st), .val (.int c0), .val (.int c1), .val (.int c2), .val (.int c3), .val (.int c4)] [(.int (1 : Int32))])) (fun t k => XS.iconst X200.here hx rfl (hb hby d29_29) k) ?_
    refine own_st (fr' := (mkF m 34 #[.val (.ref x'), .val (.int jj), .val (.int nn), .val (.int st), .val (.int c0), .val (.int c1), .val (.int c2), .val (.int c3), .val (.int c4)] [(.int (1 : Int32))])) (fun t k => XS.goto X200.here hx rfl (pc0 := 30) (pc' := 34) rfl (hb hby d29_30) (by decide) (by decide) k) ?_
    exact own_retZ X200 hx hlk hret (Or.inr rfl) (hb hby d29_34) (by decide) (by decide) (⟨rfl, N200, eq200⟩)
  · refine own_st (fr' := (mkF m 29 #[.val (.ref x'), .val (.int jj), .val (.int nn), .val (.int st), .val (.int c0), .val (.int c1), .val (.int c2), .val (.int c3), .val (.int c4)] [])) (fun t k => XS.icmpYes X0.here hx rfl (pc0 := 2) (pc' := 29) rfl (hb hby d29_2) rfl (own_flt (x := jj) (y := nn) hl).2.1 (by decide) (by decide) k) ?_
    refine own_st (fr' := (mkF m 30 #[.val (.ref x'), .val (.int jj), .val (.int nn), .val (.int st), .val (.int c0), .val (.int c1), .val (.int c2), .val (.int c3), .val (.int c4)] [(.int (1 : Int32))])) (fun t k => XS.iconst X0.here hx rfl (hb hby d29_29) k) ?_
    refine own_st (fr' := (mkF m 34 #[.val (.ref x'), .val (.int jj), .val (.int nn), .val (.int st), .val (.int c0), .val (.int c1), .val (.int c2), .val (.int c3), .val (.int c4)] [(.int (1 : Int32))])) (fun t k => XS.goto X0.here hx rfl (pc0 := 30) (pc' := 34) rfl (hb hby d29_30) (by decide) (by decide) k) ?_
    exact own_retZ X0 hx hlk hret (Or.inr rfl) (hb hby d29_34) (by decide) (by decide) (⟨rfl, N0, e0⟩)
def own_k (j q : Int) (c : Int32) : Int := if j < q ∧ own_w c = 0 then 1 else 0
theorem own_kN {j q : Int} {c : Int32} (h : ¬ j < q) : (0 : Int) = own_k j q c := by unfold own_k; rw [if_neg (fun u => h u.1)]
theorem own_kY {j q : Int} {c z : Int32} (h : j < q) (h2 : z.toInt = own_w c) (h3 : z.toInt = 0) : (1 : Int) = own_k j q c := by unfold own_k; rw [if_pos ⟨h, by omega⟩]
theorem own_kW {j q : Int} {c z : Int32} (h2 : z.toInt = own_w c) (h3 : ¬ z.toInt = 0) : (0 : Int) = own_k j q c := by unfold own_k; rw [if_neg (fun u => h3 (by omega))]
def own_first (k0 k1 k2 k3 k4 : Int) : Int := if k0 = 0 then if k1 = 0 then if k2 = 0 then if k3 = 0 then if k4 = 0 then -1 else 4 else 3 else 2 else 1 else 0
def own_last (k0 k1 k2 k3 k4 : Int) : Int := if k4 = 0 then if k3 = 0 then if k2 = 0 then if k1 = 0 then 0 else 1 else 2 else 3 else 4
theorem own_kc {j q : Int} {c : Int32} : (own_k j q c = 1 ∧ j < q ∧ own_w c = 0) ∨ (own_k j q c = 0 ∧ (q ≤ j ∨ own_w c = 1)) := by
  unfold own_k
  by_cases h : j < q ∧ own_w c = 0
  · rw [if_pos h]; exact Or.inl ⟨rfl, h⟩
  · rw [if_neg h]; refine Or.inr ⟨rfl, ?_⟩
    have := own_w01 c
    omega
theorem own_kz {k j q w : Int} (K : (k = 1 ∧ j < q ∧ w = 0) ∨ (k = 0 ∧ (q ≤ j ∨ w = 1))) (h : q ≤ j ∨ w = 1) : k = 0 := by omega
theorem own_kn {k j q w : Int} (K : (k = 1 ∧ j < q ∧ w = 0) ∨ (k = 0 ∧ (q ≤ j ∨ w = 1))) (h : j < q) (hw : w = 0) : ¬ k = 0 := by omega
theorem own_kd {k j q w e : Int} (K : (k = 1 ∧ j < q ∧ w = 0) ∨ (k = 0 ∧ (q ≤ j ∨ w = 1))) (D : e ≤ j → j < q → w = 1) (h : e ≤ j) : k = 0 := by
  by_cases u : j < q
  · exact own_kz K (Or.inr (D h u))
  · exact own_kz K (Or.inl (by omega))
theorem own_kl {k j q w a e : Int} (K : (k = 1 ∧ j < q ∧ w = 0) ∨ (k = 0 ∧ (q ≤ j ∨ w = 1))) (B : j < a → w = 1) (D : e ≤ j → j < q → w = 1) (h : e = a) : k = 0 := by
  by_cases u : j < a
  · exact own_kz K (Or.inr (B u))
  · exact own_kd K D (by omega)
theorem own_fl (k0 k1 k2 k3 k4 q a e w0 w1 w2 w3 w4 : Int) (K0 : (k0 = 1 ∧ 0 < q ∧ w0 = 0) ∨ (k0 = 0 ∧ (q ≤ 0 ∨ w0 = 1))) (K1 : (k1 = 1 ∧ 1 < q ∧ w1 = 0) ∨ (k1 = 0 ∧ (q ≤ 1 ∨ w1 = 1))) (K2 : (k2 = 1 ∧ 2 < q ∧ w2 = 0) ∨ (k2 = 0 ∧ (q ≤ 2 ∨ w2 = 1))) (K3 : (k3 = 1 ∧ 3 < q ∧ w3 = 0) ∨ (k3 = 0 ∧ (q ≤ 3 ∨ w3 = 1))) (K4 : (k4 = 1 ∧ 4 < q ∧ w4 = 0) ∨ (k4 = 0 ∧ (q ≤ 4 ∨ w4 = 1)))
    (h0 : 0 ≤ a) (h1 : a ≤ e) (h2 : e ≤ q) (h3 : q ≤ 5)
    (B0 : 0 < a → w0 = 1) (B1 : 1 < a → w1 = 1) (B2 : 2 < a → w2 = 1) (B3 : 3 < a → w3 = 1) (B4 : 4 < a → w4 = 1)
    (D0 : e ≤ 0 → 0 < q → w0 = 1) (D1 : e ≤ 1 → 1 < q → w1 = 1) (D2 : e ≤ 2 → 2 < q → w2 = 1) (D3 : e ≤ 3 → 3 < q → w3 = 1) (D4 : e ≤ 4 → 4 < q → w4 = 1)
    (A0 : a < e → a = 0 → w0 = 0) (A1 : a < e → a = 1 → w1 = 0) (A2 : a < e → a = 2 → w2 = 0) (A3 : a < e → a = 3 → w3 = 0) (A4 : a < e → a = 4 → w4 = 0)
    (E0 : a < e → e = 1 → w0 = 0) (E1 : a < e → e = 2 → w1 = 0) (E2 : a < e → e = 3 → w2 = 0) (E3 : a < e → e = 4 → w3 = 0) (E4 : a < e → e = 5 → w4 = 0) :
    (own_first k0 k1 k2 k3 k4 < 0 ∧ e = a) ∨ (own_first k0 k1 k2 k3 k4 = a ∧ a < e ∧ own_last k0 k1 k2 k3 k4 = e - 1) := by
  by_cases hae : a < e
  · have ea : a = 0 ∨ a = 1 ∨ a = 2 ∨ a = 3 ∨ a = 4 := by clear K0 K1 K2 K3 K4 B0 B1 B2 B3 B4 D0 D1 D2 D3 D4 A0 A1 A2 A3 A4 E0 E1 E2 E3 E4; omega
    have ee : e = 1 ∨ e = 2 ∨ e = 3 ∨ e = 4 ∨ e = 5 := by clear K0 K1 K2 K3 K4 B0 B1 B2 B3 B4 D0 D1 D2 D3 D4 A0 A1 A2 A3 A4 E0 E1 E2 E3 E4 ea; omega
    have haq : a < q := Int.lt_of_lt_of_le hae h2
    refine Or.inr ⟨?_, hae, ?_⟩
    · clear ee
      unfold own_first
      rcases ea with rfl | rfl | rfl | rfl | rfl
      · rw [if_neg (own_kn K0 haq (A0 hae rfl))]
      · rw [if_pos (own_kz K0 (Or.inr (B0 (by decide)))), if_neg (own_kn K1 haq (A1 hae rfl))]
      · rw [if_pos (own_kz K0 (Or.inr (B0 (by decide)))), if_pos (own_kz K1 (Or.inr (B1 (by decide)))), if_neg (own_kn K2 haq (A2 hae rfl))]
      · rw [if_pos (own_kz K0 (Or.inr (B0 (by decide)))), if_pos (own_kz K1 (Or.inr (B1 (by decide)))), if_pos (own_kz K2 (Or.inr (B2 (by decide)))), if_neg (own_kn K3 haq (A3 hae rfl))]
      · rw [if_pos (own_kz K0 (Or.inr (B0 (by decide)))), if_pos (own_kz K1 (Or.inr (B1 (by decide)))), if_pos (own_kz K2 (Or.inr (B2 (by decide)))), if_pos (own_kz K3 (Or.inr (B3 (by decide)))), if_neg (own_kn K4 haq (A4 hae rfl))]
    · clear ea
      unfold own_last
      rcases ee with rfl | rfl | rfl | rfl | rfl
      · rw [if_pos (own_kd K4 D4 (by decide)), if_pos (own_kd K3 D3 (by decide)), if_pos (own_kd K2 D2 (by decide)), if_pos (own_kd K1 D1 (by decide))] <;> rfl
      · rw [if_pos (own_kd K4 D4 (by decide)), if_pos (own_kd K3 D3 (by decide)), if_pos (own_kd K2 D2 (by decide)), if_neg (own_kn K1 (by exact h2) (E1 hae rfl))] <;> rfl
      · rw [if_pos (own_kd K4 D4 (by decide)), if_pos (own_kd K3 D3 (by decide)), if_neg (own_kn K2 (by exact h2) (E2 hae rfl))] <;> rfl
      · rw [if_pos (own_kd K4 D4 (by decide)), if_neg (own_kn K3 (by exact h2) (E3 hae rfl))] <;> rfl
      · rw [if_neg (own_kn K4 (by exact h2) (E4 hae rfl))] <;> rfl
  · have hea : e = a := Int.le_antisymm (Int.not_lt.mp hae) h1
    refine Or.inl ⟨?_, hea⟩
    unfold own_first
    rw [if_pos (own_kl K0 B0 D0 hea), if_pos (own_kl K1 B1 D1 hea), if_pos (own_kl K2 B2 D2 hea), if_pos (own_kl K3 B3 D3 hea), if_pos (own_kl K4 B4 D4 hea)]; decide
theorem own_plain {c0 c1 c2 c3 c4 : Int32} {q a e : Int} (hq : q ≤ 5) (F : own_T (own_cs c0 c1 c2 c3 c4) q a e) :
    (own_first (own_k 0 q c0) (own_k 1 q c1) (own_k 2 q c2) (own_k 3 q c3) (own_k 4 q c4) < 0 ∧ e = a) ∨ (own_first (own_k 0 q c0) (own_k 1 q c1) (own_k 2 q c2) (own_k 3 q c3) (own_k 4 q c4) = a ∧ a < e ∧ own_last (own_k 0 q c0) (own_k 1 q c1) (own_k 2 q c2) (own_k 3 q c3) (own_k 4 q c4) = e - 1) := by
  obtain ⟨h0, h1, h2, B, D, A⟩ := F
  exact own_fl _ _ _ _ _ q a e (own_w c0) (own_w c1) (own_w c2) (own_w c3) (own_w c4) own_kc own_kc own_kc own_kc own_kc h0 h1 h2 hq (fun u => B 0 u) (fun u => B 1 u) (fun u => B 2 u) (fun u => B 3 u) (fun u => B 4 u)
    (fun u v => D 0 u v) (fun u v => D 1 u v) (fun u v => D 2 u v) (fun u v => D 3 u v) (fun u v => D 4 u v)
    (fun u v => by have := (A u).1; rw [v] at this; exact this) (fun u v => by have := (A u).1; rw [v] at this; exact this) (fun u v => by have := (A u).1; rw [v] at this; exact this) (fun u v => by have := (A u).1; rw [v] at this; exact this) (fun u v => by have := (A u).1; rw [v] at this; exact this)
    (fun u v => by have := (A u).2; rw [v] at this; exact this) (fun u v => by have := (A u).2; rw [v] at this; exact this) (fun u v => by have := (A u).2; rw [v] at this; exact this) (fun u v => by have := (A u).2; rw [v] at this; exact this) (fun u v => by have := (A u).2; rw [v] at this; exact this)
theorem pd_29 : parseMethodDescriptor "(ICCCCC)Ljava/lang/String;" = some ⟨[.int, .char, .char, .char, .char, .char], some (.object "java/lang/String")⟩ := by decide +kernel
theorem pd_30 : parseMethodDescriptor "(Ljava/lang/String;)Ljava/lang/String;" = some ⟨[(.object "java/lang/String")], some (.object "java/lang/String")⟩ := by decide +kernel
theorem pd_31 : parseMethodDescriptor "(Ljava/lang/String;IIICCCCC)Z" = some ⟨[(.object "java/lang/String"), .int, .int, .int, .char, .char, .char, .char, .char], some .boolean⟩ := by decide +kernel
theorem ef_law (m : MethodId) (p0 : Int32) (p1 : Int32) (p2 : Int32) (p3 : Int32) (p4 : Int32) (p5 : Int32) : entryFrame m #[(.int p0), (.int p1), (.int p2), (.int p3), (.int p4), (.int p5)] maxLocals = mkF m 0 #[.val (.int p0), .val (.int p1), .val (.int p2), .val (.int p3), .val (.int p4), .val (.int p5), .unset, .unset, .unset, .unset, .unset, .unset, .unset, .unset, .unset, .unset, .unset, .unset, .unset, .unset, .unset, .unset] [] := by first | (simp [entryFrame, mkF, argsToLocals, Value.category, maxLocals]; done) | rfl
def Q_law (Z : State) (p0 : Int32) (p1 : Int32) (p2 : Int32) (p3 : Int32) (p4 : Int32) (p5 : Int32) (cz : Int32) (fv : Value) (h0 : Heap) (n0 : Nat) : Option Value → Heap → List Loc → Prop := fun v h L => v = some (.int 1) ∧ Fr n0 L
set_option maxRecDepth 65536 in
set_option maxHeartbeats 40000000 in
theorem rm_law (l : Launch) (Z : State) (a0 : Array Value) (hw : ∀ d ∈ tables_1, d.before a0 Z = true) (ws : List Jvm.Cond) (p0 : Int32) (p1 : Int32) (p2 : Int32) (p3 : Int32) (p4 : Int32) (p5 : Int32) (cz : Int32) (fv : Value) (h0 : Heap) (n0 : Nat) (Z0 : n0 ≤ h0.size) (S_cs : Sta Z h0 "java/lang/String" "COMPACT_STRINGS" "Z" (.int cz)) (S_fm : Sta Z h0 "jdk/internal/util/Preconditions" "SIOOBE_FORMATTER" "Ljava/util/function/BiFunction;" fv) (S_as : Sta Z h0 "java/lang/StringUTF16" "$assertionsDisabled" "Z" (.int (1 : Int32))) (S_hi : Sta Z h0 "java/lang/StringUTF16" "HI_BYTE_SHIFT" "I" (.int (0 : Int32))) (S_lo : Sta Z h0 "java/lang/StringUTF16" "LO_BYTE_SHIFT" "I" (.int (8 : Int32))) (hcz : ¬ cz.toInt = 0) (hfv : fv.isRef = true) :
    MetFree l x (head1 (Jvm.Cond.code x code maxLocals ret :: ws) room_1) (fun aX U => aX = #[(.int p0), (.int p1), (.int p2), (.int p3), (.int p4), (.int p5)] ∧ Z.Warmed39 U.vm ∧ U.heap = h0 ∧ CHv Z own_EL U.vm h0) (fun _ _ _ _ _ => True) (fun _ U o U' => ∃ v L, o = .returned v ∧ (Q_law Z p0 p1 p2 p3 p4 p5 cz fv h0 n0) v U'.heap L ∧ CHr Z own_EL U.vm U.heap U'.vm U'.heap ∧ ReturnedEndW U o U' L room_1.cells room_1.slots) := by
  refine own_metC (Q := (Q_law Z p0 p1 p2 p3 p4 p5 cz fv h0 n0)) (plainFor_of_name (x := x) pn_1) (fun m => ef_law m p0 p1 p2 p3 p4 p5) ?_
  intro p e s m below meth cD s₁ hx hby hml hret hlk hZ hown hnm X0 e0 hS r0
  have hml : cD.maxLocals = 22 := hml
  have hown : s.vm.findClass "com/example/linkvouch/linkvouch/AttributeValueTrimmedPinLaw" = some m.cls := hown
  have N0 := Fr.nil n0
  refine own_st (fr' := (mkF m 1 #[.val (.int p0), .val (.int p1), .val (.int p2), .val (.int p3), .val (.int p4), .val (.int p5), .unset, .unset, .unset, .unset, .unset, .unset, .unset, .unset, .unset, .unset, .unset, .unset, .unset, .unset, .unset, .unset] [(.int p0)])) (fun t k => XS.iloadN X0.here hx rfl (hb hby at_0) rfl  k) ?_
  refine own_st (fr' := (mkF m 3 #[.val (.int p0), .val (.int p1), .val (.int p2), .val (.int p3), .val (.int p4), .val (.int p5), .unset, .unset, .unset, .unset, .unset, .unset, .unset, .unset, .unset, .unset, .unset, .unset, .unset, .unset, .unset, .unset] [(.int (2147483647 : Int32)), (.int p0)])) (fun t k => X0.ldcInt hx hown (mvT hZ (hw _ (List.mem_of_getElem? (i := 0) rfl))) (g := (mkF m 1 #[.val (.int p0), .val (.int p1), .val (.int p2), .val (.int p3), .val (.int p4), .val (.int p5), .unset, .unset, .unset, .unset, .unset, .unset, .unset, .unset, .unset, .unset, .unset, .unset, .unset, .unset, .unset, .unset] [(.int p0)])) rfl (hb hby at_1) t k) ?_
  refine own_st (fr' := (mkF m 4 #[.val (.int p0), .val (.int p1), .val (.int p2), .val (.int p3), .val (.int p4), .val (.int p5), .unset, .unset, .unset, .unset, .unset, .unset, .unset, .unset, .unset, .unset, .unset, .unset, .unset, .unset, .unset, .unset] [(.int (p0 &&& (2147483647 : Int32)))])) (fun t k => XS.iand X0.here hx rfl (hb hby at_3) rfl k) ?_
  refine own_st (fr' := (mkF m 6 #[.val (.int p0), .val (.int p1), .val (.int p2), .val (.int p3), .val (.int p4), .val (.int p5), .unset, .unset, .unset, .unset, .unset, .unset, .unset, .unset, .unset, .unset, .unset, .unset, .unset, .unset, .unset, .unset] [(.int (6 : Int32)), (.int (p0 &&& (2147483647 : Int32)))])) (fun t k => XS.bipush X0.here hx rfl (hb hby at_4) k) ?_
  refine own_st (fr' := (mkF m 7 #[.val (.int p0), .val (.int p1), .val (.int p2), .val (.int p3), .val (.int p4), .val (.int p5), .unset, .unset, .unset, .unset, .unset, .unset, .unset, .unset, .unset, .unset, .unset, .unset, .unset, .unset, .unset, .unset] [(.int ((p0 &&& (2147483647 : Int32)) % (6 : Int32)))])) (fun t k => iremM X0 hx rfl (hb hby at_6) rfl (by decide) k) ?_
  have qn := c_mask p0 2147483647 31 (by decide) (by decide)
  have qr := c_irem (p0 &&& 2147483647) 6 6 rfl
  generalize ((p0 &&& (2147483647 : Int32)) % (6 : Int32)) = q at qr ⊢
  have hq : 0 ≤ q.toInt ∧ q.toInt ≤ 5 := by omega
  clear qn qr
  refine own_st (fr' := (mkF m 9 #[.val (.int p0), .val (.int p1), .val (.int p2), .val (.int p3), .val (.int p4), .val (.int p5), .val (.int q), .unset, .unset, .unset, .unset, .unset, .unset, .unset, .unset, .unset, .unset, .unset, .unset, .unset, .unset, .unset] [])) (fun t k => XS.istore X0.here hx rfl (hb hby at_7) rfl  (l' := #[.val (.int p0), .val (.int p1), .val (.int p2), .val (.int p3), .val (.int p4), .val (.int p5), .val (.int q), .unset, .unset, .unset, .unset, .unset, .unset, .unset, .unset, .unset, .unset, .unset, .unset, .unset, .unset, .unset]) rfl k) ?_
  refine own_st (fr' := (mkF m 10 #[.val (.int p0), .val (.int p1), .val (.int p2), .val (.int p3), .val (.int p4), .val (.int p5), .val (.int q), .unset, .unset, .unset, .unset, .unset, .unset, .unset, .unset, .unset, .unset, .unset, .unset, .unset, .unset, .unset] [(.int p1)])) (fun t k => XS.iloadN X0.here hx rfl (hb hby at_9) rfl  k) ?_
  refine own_callS X0 hx hZ (y := (⟨"com/example/linkvouch/linkvouch/AttributeValueTrimmedPinLaw", "pick", "(I)C"⟩ : MethodName)) hown (hw _ (List.mem_of_getElem? (i := 1) rfl)) (hw _ (List.mem_of_getElem? (i := 2) rfl)) (hw _ (List.mem_of_getElem? (i := 3) rfl)) (hw _ (List.mem_of_getElem? (i := 4) rfl)) (by decide) (argsL := [(.int p1)]) (rest := []) (W := 0) (rm_pick l Z a0 hw [] p1 h0 n0 Z0 ) e0 (by rw [hml]; rfl) (lenOf pd_25 rfl) rfl (Nat.le_of_eq rfl) (hb hby at_10) (by decide) (by decide) (by decide) (by decide) ?_
  intro v201 T201 L201 X201 hQ201
  obtain ⟨⟨c0, rfl, hr0⟩, Nq201, K201⟩ := hQ201
  have N201 := Fr.app N0 Nq201
  have r202 := CHr.trans r0 (CHr.keep K201 all0 r0.1)
  refine own_st (fr' := (mkF m 15 #[.val (.int p0), .val (.int p1), .val (.int p2), .val (.int p3), .val (.int p4), .val (.int p5), .val (.int q), .val (.int c0), .unset, .unset, .unset, .unset, .unset, .unset, .unset, .unset, .unset, .unset, .unset, .unset, .unset, .unset] [])) (fun t k => XS.istore X201.here hx rfl (hb hby at_13) rfl  (l' := #[.val (.int p0), .val (.int p1), .val (.int p2), .val (.int p3), .val (.int p4), .val (.int p5), .val (.int q), .val (.int c0), .unset, .unset, .unset, .unset, .unset, .unset, .unset, .unset, .unset, .unset, .unset, .unset, .unset, .unset]) rfl k) ?_
  refine own_st (fr' := (mkF m 16 #[.val (.int p0), .val (.int p1), .val (.int p2), .val (.int p3), .val (.int p4), .val (.int p5), .val (.int q), .val (.int c0), .unset, .unset, .unset, .unset, .unset, .unset, .unset, .unset, .unset, .unset, .unset, .unset, .unset, .unset] [(.int p2)])) (fun t k => XS.iloadN X201.here hx rfl (hb hby at_15) rfl  k) ?_
  refine own_callS X201 hx hZ (y := (⟨"com/example/linkvouch/linkvouch/AttributeValueTrimmedPinLaw", "pick", "(I)C"⟩ : MethodName)) hown (hw _ (List.mem_of_getElem? (i := 1) rfl)) (hw _ (List.mem_of_getElem? (i := 2) rfl)) (hw _ (List.mem_of_getElem? (i := 3) rfl)) (hw _ (List.mem_of_getElem? (i := 4) rfl)) (by decide) (argsL := [(.int p2)]) (rest := []) (W := 0) (rm_pick l Z a0 hw [] p2 T201.heap n0 (Nat.le_trans Z0 K201.1) ) rfl (by rw [hml]; rfl) (lenOf pd_25 rfl) rfl (Nat.le_of_eq rfl) (hb hby at_16) (by decide) (by decide) (by decide) (by decide) ?_
  intro v203 T203 L203 X203 hQ203
  obtain ⟨⟨c1, rfl, hr1⟩, Nq203, K203⟩ := hQ203
  have N203 := Fr.app N201 Nq203
  have r204 := CHr.trans r202 (CHr.keep K203 all0 r202.1)
  refine own_st (fr' := (mkF m 21 #[.val (.int p0), .val (.int p1), .val (.int p2), .val (.int p3), .val (.int p4), .val (.int p5), .val (.int q), .val (.int c0), .val (.int c1), .unset, .unset, .unset, .unset, .unset, .unset, .unset, .unset, .unset, .unset, .unset, .unset, .unset] [])) (fun t k => XS.istore X203.here hx rfl (hb hby at_19) rfl  (l' := #[.val (.int p0), .val (.int p1), .val (.int p2), .val (.int p3), .val (.int p4), .val (.int p5), .val (.int q), .val (.int c0), .val (.int c1), .unset, .unset, .unset, .unset, .unset, .unset, .unset, .unset, .unset, .unset, .unset, .unset, .unset]) rfl k) ?_
  refine own_st (fr' := (mkF m 22 #[.val (.int p0), .val (.int p1), .val (.int p2), .val (.int p3), .val (.int p4), .val (.int p5), .val (.int q), .val (.int c0), .val (.int c1), .unset, .unset, .unset, .unset, .unset, .unset, .unset, .unset, .unset, .unset, .unset, .unset, .unset] [(.int p3)])) (fun t k => XS.iloadN X203.here hx rfl (hb hby at_21) rfl  k) ?_
  refine own_callS X203 hx hZ (y := (⟨"com/example/linkvouch/linkvouch/AttributeValueTrimmedPinLaw", "pick", "(I)C"⟩ : MethodName)) hown (hw _ (List.mem_of_getElem? (i := 1) rfl)) (hw _ (List.mem_of_getElem? (i := 2) rfl)) (hw _ (List.mem_of_getElem? (i := 3) rfl)) (hw _ (List.mem_of_getElem? (i := 4) rfl)) (by decide) (argsL := [(.int p3)]) (rest := []) (W := 0) (rm_pick l Z a0 hw [] p3 T203.heap n0 (Nat.le_trans (Nat.le_trans Z0 K201.1) K203.1) ) rfl (by rw [hml]; rfl) (lenOf pd_25 rfl) rfl (Nat.le_of_eq rfl) (hb hby at_22) (by decide) (by decide) (by decide) (by decide) ?_
  intro v205 T205 L205 X205 hQ205
  obtain ⟨⟨c2, rfl, hr2⟩, Nq205, K205⟩ := hQ205
  have N205 := Fr.app N203 Nq205
  have r206 := CHr.trans r204 (CHr.keep K205 all0 r204.1)
  refine own_st (fr' := (mkF m 27 #[.val (.int p0), .val (.int p1), .val (.int p2), .val (.int p3), .val (.int p4), .val (.int p5), .val (.int q), .val (.int c0), .val (.int c1), .val (.int c2), .unset, .unset, .unset, .unset, .unset, .unset, .unset, .unset, .unset, .unset, .unset, .unset] [])) (fun t k => XS.istore X205.here hx rfl (hb hby at_25) rfl  (l' := #[.val (.int p0), .val (.int p1), .val (.int p2), .val (.int p3), .val (.int p4), .val (.int p5), .val (.int q), .val (.int c0), .val (.int c1), .val (.int c2), .unset, .unset, .unset, .unset, .unset, .unset, .unset, .unset, .unset, .unset, .unset, .unset]) rfl k) ?_
  refine own_st (fr' := (mkF m 29 #[.val (.int p0), .val (.int p1), .val (.int p2), .val (.int p3), .val (.int p4), .val (.int p5), .val (.int q), .val (.int c0), .val (.int c1), .val (.int c2), .unset, .unset, .unset, .unset, .unset, .unset, .unset, .unset, .unset, .unset, .unset, .unset] [(.int p4)])) (fun t k => XS.iload X205.here hx rfl (hb hby at_27) rfl  k) ?_
  refine own_callS X205 hx hZ (y := (⟨"com/example/linkvouch/linkvouch/AttributeValueTrimmedPinLaw", "pick", "(I)C"⟩ : MethodName)) hown (hw _ (List.mem_of_getElem? (i := 1) rfl)) (hw _ (List.mem_of_getElem? (i := 2) rfl)) (hw _ (List.mem_of_getElem? (i := 3) rfl)) (hw _ (List.mem_of_getElem? (i := 4) rfl)) (by decide) (argsL := [(.int p4)]) (rest := []) (W := 0) (rm_pick l Z a0 hw [] p4 T205.heap n0 (Nat.le_trans (Nat.le_trans (Nat.le_trans Z0 K201.1) K203.1) K205.1) ) rfl (by rw [hml]; rfl) (lenOf pd_25 rfl) rfl (Nat.le_of_eq rfl) (hb hby at_29) (by decide) (by decide) (by decide) (by decide) ?_
  intro v207 T207 L207 X207 hQ207
  obtain ⟨⟨c3, rfl, hr3⟩, Nq207, K207⟩ := hQ207
  have N207 := Fr.app N205 Nq207
  have r208 := CHr.trans r206 (CHr.keep K207 all0 r206.1)
  refine own_st (fr' := (mkF m 34 #[.val (.int p0), .val (.int p1), .val (.int p2), .val (.int p3), .val (.int p4), .val (.int p5), .val (.int q), .val (.int c0), .val (.int c1), .val (.int c2), .val (.int c3), .unset, .unset, .unset, .unset, .unset, .unset, .unset, .unset, .unset, .unset, .unset] [])) (fun t k => XS.istore X207.here hx rfl (hb hby at_32) rfl  (l' := #[.val (.int p0), .val (.int p1), .val (.int p2), .val (.int p3), .val (.int p4), .val (.int p5), .val (.int q), .val (.int c0), .val (.int c1), .val (.int c2), .val (.int c3), .unset, .unset, .unset, .unset, .unset, .unset, .unset, .unset, .unset, .unset, .unset]) rfl k) ?_
  refine own_st (fr' := (mkF m 36 #[.val (.int p0), .val (.int p1), .val (.int p2), .val (.int p3), .val (.int p4), .val (.int p5), .val (.int q), .val (.int c0), .val (.int c1), .val (.int c2), .val (.int c3), .unset, .unset, .unset, .unset, .unset, .unset, .unset, .unset, .unset, .unset, .unset] [(.int p5)])) (fun t k => XS.iload X207.here hx rfl (hb hby at_34) rfl  k) ?_
  refine own_callS X207 hx hZ (y := (⟨"com/example/linkvouch/linkvouch/AttributeValueTrimmedPinLaw", "pick", "(I)C"⟩ : MethodName)) hown (hw _ (List.mem_of_getElem? (i := 1) rfl)) (hw _ (List.mem_of_getElem? (i := 2) rfl)) (hw _ (List.mem_of_getElem? (i := 3) rfl)) (hw _ (List.mem_of_getElem? (i := 4) rfl)) (by decide) (argsL := [(.int p5)]) (rest := []) (W := 0) (rm_pick l Z a0 hw [] p5 T207.heap n0 (Nat.le_trans (Nat.le_trans (Nat.le_trans (Nat.le_trans Z0 K201.1) K203.1) K205.1) K207.1) ) rfl (by rw [hml]; rfl) (lenOf pd_25 rfl) rfl (Nat.le_of_eq rfl) (hb hby at_36) (by decide) (by decide) (by decide) (by decide) ?_
  intro v209 T209 L209 X209 hQ209
  obtain ⟨⟨c4, rfl, hr4⟩, Nq209, K209⟩ := hQ209
  have N209 := Fr.app N207 Nq209
  have r210 := CHr.trans r208 (CHr.keep K209 all0 r208.1)
  refine own_st (fr' := (mkF m 41 #[.val (.int p0), .val (.int p1), .val (.int p2), .val (.int p3), .val (.int p4), .val (.int p5), .val (.int q), .val (.int c0), .val (.int c1), .val (.int c2), .val (.int c3), .val (.int c4), .unset, .unset, .unset, .unset, .unset, .unset, .unset, .unset, .unset, .unset] [])) (fun t k => XS.istore X209.here hx rfl (hb hby at_39) rfl  (l' := #[.val (.int p0), .val (.int p1), .val (.int p2), .val (.int p3), .val (.int p4), .val (.int p5), .val (.int q), .val (.int c0), .val (.int c1), .val (.int c2), .val (.int c3), .val (.int c4), .unset, .unset, .unset, .unset, .unset, .unset, .unset, .unset, .unset, .unset]) rfl k) ?_
  refine own_st (fr' := (mkF m 43 #[.val (.int p0), .val (.int p1), .val (.int p2), .val (.int p3), .val (.int p4), .val (.int p5), .val (.int q), .val (.int c0), .val (.int c1), .val (.int c2), .val (.int c3), .val (.int c4), .unset, .unset, .unset, .unset, .unset, .unset, .unset, .unset, .unset, .unset] [(.int q)])) (fun t k => XS.iload X209.here hx rfl (hb hby at_41) rfl  k) ?_
  refine own_st (fr' := (mkF m 45 #[.val (.int p0), .val (.int p1), .val (.int p2), .val (.int p3), .val (.int p4), .val (.int p5), .val (.int q), .val (.int c0), .val (.int c1), .val (.int c2), .val (.int c3), .val (.int c4), .unset, .unset, .unset, .unset, .unset, .unset, .unset, .unset, .unset, .unset] [(.int c0), (.int q)])) (fun t k => XS.iload X209.here hx rfl (hb hby at_43) rfl  k) ?_
  refine own_st (fr' := (mkF m 47 #[.val (.int p0), .val (.int p1), .val (.int p2), .val (.int p3), .val (.int p4), .val (.int p5), .val (.int q), .val (.int c0), .val (.int c1), .val (.int c2), .val (.int c3), .val (.int c4), .unset, .unset, .unset, .unset, .unset, .unset, .unset, .unset, .unset, .unset] [(.int c1), (.int c0), (.int q)])) (fun t k => XS.iload X209.here hx rfl (hb hby at_45) rfl  k) ?_
  refine own_st (fr' := (mkF m 49 #[.val (.int p0), .val (.int p1), .val (.int p2), .val (.int p3), .val (.int p4), .val (.int p5), .val (.int q), .val (.int c0), .val (.int c1), .val (.int c2), .val (.int c3), .val (.int c4), .unset, .unset, .unset, .unset, .unset, .unset, .unset, .unset, .unset, .unset] [(.int c2), (.int c1), (.int c0), (.int q)])) (fun t k => XS.iload X209.here hx rfl (hb hby at_47) rfl  k) ?_
  refine own_st (fr' := (mkF m 51 #[.val (.int p0), .val (.int p1), .val (.int p2), .val (.int p3), .val (.int p4), .val (.int p5), .val (.int q), .val (.int c0), .val (.int c1), .val (.int c2), .val (.int c3), .val (.int c4), .unset, .unset, .unset, .unset, .unset, .unset, .unset, .unset, .unset, .unset] [(.int c3), (.int c2), (.int c1), (.int c0), (.int q)])) (fun t k => XS.iload X209.here hx rfl (hb hby at_49) rfl  k) ?_
  refine own_st (fr' := (mkF m 53 #[.val (.int p0), .val (.int p1), .val (.int p2), .val (.int p3), .val (.int p4), .val (.int p5), .val (.int q), .val (.int c0), .val (.int c1), .val (.int c2), .val (.int c3), .val (.int c4), .unset, .unset, .unset, .unset, .unset, .unset, .unset, .unset, .unset, .unset] [(.int c4), (.int c3), (.int c2), (.int c1), (.int c0), (.int q)])) (fun t k => XS.iload X209.here hx rfl (hb hby at_51) rfl  k) ?_
  refine own_callSC X209 hx hZ hS (Nat.le_trans (Nat.le_trans (Nat.le_trans (Nat.le_trans (Nat.le_trans (Nat.le_refl _) K201.1) K203.1) K205.1) K207.1) K209.1) (own_ew hw) r210 (y := (⟨"com/example/linkvouch/linkvouch/AttributeValueTrimmedPinLaw", "make", "(ICCCCC)Ljava/lang/String;"⟩ : MethodName)) hown (hw _ (List.mem_of_getElem? (i := 6) rfl)) (hw _ (List.mem_of_getElem? (i := 7) rfl)) (hw _ (List.mem_of_getElem? (i := 3) rfl)) (hw _ (List.mem_of_getElem? (i := 8) rfl)) (by decide) (argsL := [(.int q), (.int c0), (.int c1), (.int c2), (.int c3), (.int c4)]) (rest := []) (W := 0) (rm_make l Z a0 hw [] q c0 c1 c2 c3 c4 cz fv T209.heap n0 (Nat.le_trans (Nat.le_trans (Nat.le_trans (Nat.le_trans (Nat.le_trans Z0 K201.1) K203.1) K205.1) K207.1) K209.1) hq hr0 hr1 hr2 hr3 hr4 (own_sk0 (own_sk0 (own_sk0 (own_sk0 (own_sk0 S_cs K201) K203) K205) K207) K209) (own_sk0 (own_sk0 (own_sk0 (own_sk0 (own_sk0 S_fm K201) K203) K205) K207) K209) (own_sk0 (own_sk0 (own_sk0 (own_sk0 (own_sk0 S_as K201) K203) K205) K207) K209) (own_sk0 (own_sk0 (own_sk0 (own_sk0 (own_sk0 S_hi K201) K203) K205) K207) K209) (own_sk0 (own_sk0 (own_sk0 (own_sk0 (own_sk0 S_lo K201) K203) K205) K207) K209) hcz hfv) rfl  (by rw [hml]; rfl) (lenOf pd_29 rfl) rfl (Nat.le_of_eq rfl) (hb hby at_53) (by decide) (by decide) (by decide) (by decide) ?_
  intro v211 T211 L211 vm211 X211 hQ211 hZ hown hS rc211 r211
  obtain ⟨⟨x1, rfl, PS1⟩, Nq211, K211⟩ := hQ211
  have N211 := Fr.app N209 Nq211
  refine own_st (fr' := (mkF m 58 #[.val (.int p0), .val (.int p1), .val (.int p2), .val (.int p3), .val (.int p4), .val (.int p5), .val (.int q), .val (.int c0), .val (.int c1), .val (.int c2), .val (.int c3), .val (.int c4), .val (.ref x1), .unset, .unset, .unset, .unset, .unset, .unset, .unset, .unset, .unset] [])) (fun t k => XS.astore X211.here hx rfl (hb hby at_56) rfl rfl (l' := #[.val (.int p0), .val (.int p1), .val (.int p2), .val (.int p3), .val (.int p4), .val (.int p5), .val (.int q), .val (.int c0), .val (.int c1), .val (.int c2), .val (.int c3), .val (.int c4), .val (.ref x1), .unset, .unset, .unset, .unset, .unset, .unset, .unset, .unset, .unset]) rfl k) ?_
  refine own_st (fr' := (mkF m 60 #[.val (.int p0), .val (.int p1), .val (.int p2), .val (.int p3), .val (.int p4), .val (.int p5), .val (.int q), .val (.int c0), .val (.int c1), .val (.int c2), .val (.int c3), .val (.int c4), .val (.ref x1), .unset, .unset, .unset, .unset, .unset, .unset, .unset, .unset, .unset] [(.ref x1)])) (fun t k => XS.aload X211.here hx rfl (hb hby at_58) rfl rfl k) ?_
  refine own_callSC X211 hx hZ hS (Nat.le_refl _) (own_ew hw) r211 (y := (⟨"com/example/linkvouch/linkvouch/AttributeValue", "trimmed", "(Ljava/lang/String;)Ljava/lang/String;"⟩ : MethodName)) hown (hw _ (List.mem_of_getElem? (i := 30) rfl)) (hw _ (List.mem_of_getElem? (i := 31) rfl)) (hw _ (List.mem_of_getElem? (i := 32) rfl)) (hw _ (List.mem_of_getElem? (i := 33) rfl)) (by decide) (argsL := [(.ref x1)]) (rest := []) (W := 0) (rm_trim l Z a0 hw [] x1 q (own_cs c0 c1 c2 c3 c4) cz fv T211.heap n0 (Nat.le_trans (Nat.le_trans (Nat.le_trans (Nat.le_trans (Nat.le_trans (Nat.le_trans Z0 K201.1) K203.1) K205.1) K207.1) K209.1) K211.1) PS1 hq (own_csR hr0 hr1 hr2 hr3 hr4) (own_sk0 (own_sk0 (own_sk0 (own_sk0 (own_sk0 (own_sk0 S_cs K201) K203) K205) K207) K209) K211) (own_sk0 (own_sk0 (own_sk0 (own_sk0 (own_sk0 (own_sk0 S_fm K201) K203) K205) K207) K209) K211) (own_sk0 (own_sk0 (own_sk0 (own_sk0 (own_sk0 (own_sk0 S_as K201) K203) K205) K207) K209) K211) (own_sk0 (own_sk0 (own_sk0 (own_sk0 (own_sk0 (own_sk0 S_hi K201) K203) K205) K207) K209) K211) (own_sk0 (own_sk0 (own_sk0 (own_sk0 (own_sk0 (own_sk0 S_lo K201) K203) K205) K207) K209) K211) hcz hfv) rfl  (by rw [hml]; rfl) (lenOf pd_30 rfl) rfl (Nat.le_of_eq rfl) (hb hby at_60) (by decide) (by decide) (by decide) (by decide) ?_
  intro v212 T212 L212 vm212 X212 hQ212 hZ hown hS rc212 r212
  obtain ⟨⟨x2, il, a', e', rfl, hil, PS2, hTr⟩, Nq212, K212⟩ := hQ212
  have N212 := Fr.app N211 Nq212
  have EX2 : Exa Z T212.heap x2 "java/lang/String" := by obtain ⟨_, _, _, _, u, -⟩ := PS2; exact u
  refine own_st (fr' := (mkF m 65 #[.val (.int p0), .val (.int p1), .val (.int p2), .val (.int p3), .val (.int p4), .val (.int p5), .val (.int q), .val (.int c0), .val (.int c1), .val (.int c2), .val (.int c3), .val (.int c4), .val (.ref x1), .val (.ref x2), .unset, .unset, .unset, .unset, .unset, .unset, .unset, .unset] [])) (fun t k => XS.astore X212.here hx rfl (hb hby at_63) rfl rfl (l' := #[.val (.int p0), .val (.int p1), .val (.int p2), .val (.int p3), .val (.int p4), .val (.int p5), .val (.int q), .val (.int c0), .val (.int c1), .val (.int c2), .val (.int c3), .val (.int c4), .val (.ref x1), .val (.ref x2), .unset, .unset, .unset, .unset, .unset, .unset, .unset, .unset]) rfl k) ?_
  refine own_st (fr' := (mkF m 67 #[.val (.int p0), .val (.int p1), .val (.int p2), .val (.int p3), .val (.int p4), .val (.int p5), .val (.int q), .val (.int c0), .val (.int c1), .val (.int c2), .val (.int c3), .val (.int c4), .val (.ref x1), .val (.ref x2), .unset, .unset, .unset, .unset, .unset, .unset, .unset, .unset] [(.int q)])) (fun t k => XS.iload X212.here hx rfl (hb hby at_65) rfl  k) ?_
  suffices J213 : ∀ (T : State) (L : List Loc) (z215_0 : Int32), Stand p l e room_1 (s.setVm vm212) m #[(.int p0), (.int p1), (.int p2), (.int p3), (.int p4), (.int p5)] below meth cD T L (((((((0 + 1) + 1) + 1) + 1) + 1) + 4) + 3) (((((((0 + 16) + 16) + 16) + 16) + 16) + 24) + 19) → T.heap = T212.heap → Fr n0 L → (z215_0.toInt = own_k 0 q.toInt c0) → Go p e below (.cold Z own_EL s) room_1.cells room_1.slots (Q_law Z p0 p1 p2 p3 p4 p5 cz fv h0 n0) T (mkF m 83 #[.val (.int p0), .val (.int p1), .val (.int p2), .val (.int p3), .val (.int p4), .val (.int p5), .val (.int q), .val (.int c0), .val (.int c1), .val (.int c2), .val (.int c3), .val (.int c4), .val (.ref x1), .val (.ref x2), .unset, .unset, .unset, .unset, .unset, .unset, .unset, .unset] [(.int z215_0)]) by
    by_cases hf0 : 0 < q.toInt
    · refine own_st (fr' := (mkF m 70 #[.val (.int p0), .val (.int p1), .val (.int p2), .val (.int p3), .val (.int p4), .val (.int p5), .val (.int q), .val (.int c0), .val (.int c1), .val (.int c2), .val (.int c3), .val (.int c4), .val (.ref x1), .val (.ref x2), .unset, .unset, .unset, .unset, .unset, .unset, .unset, .unset] [])) (fun t k => XS.ifNo X212.here hx rfl (hb hby at_67) rfl ((if0 _ _).trans (own_tlt (x := (0 : Int32)) (y := q) hf0).2.2.2) k) ?_
      refine own_st (fr' := (mkF m 72 #[.val (.int p0), .val (.int p1), .val (.int p2), .val (.int p3), .val (.int p4), .val (.int p5), .val (.int q), .val (.int c0), .val (.int c1), .val (.int c2), .val (.int c3), .val (.int c4), .val (.ref x1), .val (.ref x2), .unset, .unset, .unset, .unset, .unset, .unset, .unset, .unset] [(.int c0)])) (fun t k => XS.iload X212.here hx rfl (hb hby at_70) rfl  k) ?_
      refine own_callS X212 hx hZ (y := (⟨"com/example/linkvouch/linkvouch/AttributeValueTrimmedPinLaw", "ws", "(C)Z"⟩ : MethodName)) hown (hw _ (List.mem_of_getElem? (i := 118) rfl)) (hw _ (List.mem_of_getElem? (i := 119) rfl)) (hw _ (List.mem_of_getElem? (i := 3) rfl)) (hw _ (List.mem_of_getElem? (i := 120) rfl)) (by decide) (argsL := [(.int c0)]) (rest := []) (W := 0) (rm_ws l Z a0 hw [] c0 T212.heap n0 (Nat.le_trans (Nat.le_trans (Nat.le_trans (Nat.le_trans (Nat.le_trans (Nat.le_trans (Nat.le_trans Z0 K201.1) K203.1) K205.1) K207.1) K209.1) K211.1) K212.1) ) rfl (by rw [hml]; rfl) (lenOf pd_26 rfl) rfl (Nat.le_of_eq rfl) (hb hby at_72) (by decide) (by decide) (by decide) (by decide) ?_
      intro v214 T214 L214 X214 hQ214
      obtain ⟨⟨zz, rfl, hzz⟩, Nq214, eq214⟩ := hQ214
      have N214 := Fr.app N212 Nq214
      by_cases hg0 : zz.toInt = 0
      · refine own_st (fr' := (mkF m 78 #[.val (.int p0), .val (.int p1), .val (.int p2), .val (.int p3), .val (.int p4), .val (.int p5), .val (.int q), .val (.int c0), .val (.int c1), .val (.int c2), .val (.int c3), .val (.int c4), .val (.ref x1), .val (.ref x2), .unset, .unset, .unset, .unset, .unset, .unset, .unset, .unset] [])) (fun t k => XS.ifNo X214.here hx rfl (hb hby at_75) rfl ((if0 _ _).trans (own_teq (x := zz) (y := (0 : Int32)) hg0).2) k) ?_
        refine own_st (fr' := (mkF m 79 #[.val (.int p0), .val (.int p1), .val (.int p2), .val (.int p3), .val (.int p4), .val (.int p5), .val (.int q), .val (.int c0), .val (.int c1), .val (.int c2), .val (.int c3), .val (.int c4), .val (.ref x1), .val (.ref x2), .unset, .unset, .unset, .unset, .unset, .unset, .unset, .unset] [(.int (1 : Int32))])) (fun t k => XS.iconst X214.here hx rfl (hb hby at_78) k) ?_
        refine own_st (fr' := (mkF m 83 #[.val (.int p0), .val (.int p1), .val (.int p2), .val (.int p3), .val (.int p4), .val (.int p5), .val (.int q), .val (.int c0), .val (.int c1), .val (.int c2), .val (.int c3), .val (.int c4), .val (.ref x1), .val (.ref x2), .unset, .unset, .unset, .unset, .unset, .unset, .unset, .unset] [(.int (1 : Int32))])) (fun t k => XS.goto X214.here hx rfl (pc0 := 79) (pc' := 83) rfl (hb hby at_79) (by decide) (by decide) k) ?_
        exact J213 _ _ (1 : Int32) X214 eq214 N214 (own_kY hf0 hzz hg0)
      · refine own_st (fr' := (mkF m 82 #[.val (.int p0), .val (.int p1), .val (.int p2), .val (.int p3), .val (.int p4), .val (.int p5), .val (.int q), .val (.int c0), .val (.int c1), .val (.int c2), .val (.int c3), .val (.int c4), .val (.ref x1), .val (.ref x2), .unset, .unset, .unset, .unset, .unset, .unset, .unset, .unset] [])) (fun t k => XS.ifYes X214.here hx rfl (pc0 := 75) (pc' := 82) rfl (hb hby at_75) rfl ((if0 _ _).trans (own_feq (x := zz) (y := (0 : Int32)) hg0).2) (by decide) (by decide) k) ?_
        refine own_st (fr' := (mkF m 83 #[.val (.int p0), .val (.int p1), .val (.int p2), .val (.int p3), .val (.int p4), .val (.int p5), .val (.int q), .val (.int c0), .val (.int c1), .val (.int c2), .val (.int c3), .val (.int c4), .val (.ref x1), .val (.ref x2), .unset, .unset, .unset, .unset, .unset, .unset, .unset, .unset] [(.int (0 : Int32))])) (fun t k => XS.iconst X214.here hx rfl (hb hby at_82) k) ?_
        exact J213 _ _ (0 : Int32) X214 eq214 N214 (own_kW hzz hg0)
    · refine own_st (fr' := (mkF m 82 #[.val (.int p0), .val (.int p1), .val (.int p2), .val (.int p3), .val (.int p4), .val (.int p5), .val (.int q), .val (.int c0), .val (.int c1), .val (.int c2), .val (.int c3), .val (.int c4), .val (.ref x1), .val (.ref x2), .unset, .unset, .unset, .unset, .unset, .unset, .unset, .unset] [])) (fun t k => XS.ifYes X212.here hx rfl (pc0 := 67) (pc' := 82) rfl (hb hby at_67) rfl ((if0 _ _).trans (own_flt (x := (0 : Int32)) (y := q) hf0).2.2.2) (by decide) (by decide) k) ?_
      refine own_st (fr' := (mkF m 83 #[.val (.int p0), .val (.int p1), .val (.int p2), .val (.int p3), .val (.int p4), .val (.int p5), .val (.int q), .val (.int c0), .val (.int c1), .val (.int c2), .val (.int c3), .val (.int c4), .val (.ref x1), .val (.ref x2), .unset, .unset, .unset, .unset, .unset, .unset, .unset, .unset] [(.int (0 : Int32))])) (fun t k => XS.iconst X212.here hx rfl (hb hby at_82) k) ?_
      exact J213 _ _ (0 : Int32) X212 rfl N212 (own_kN hf0)
  intro T215 L215 z215_0 X215 e215 N215 hz215
  refine own_st (fr' := (mkF m 85 #[.val (.int p0), .val (.int p1), .val (.int p2), .val (.int p3), .val (.int p4), .val (.int p5), .val (.int q), .val (.int c0), .val (.int c1), .val (.int c2), .val (.int c3), .val (.int c4), .val (.ref x1), .val (.ref x2), .val (.int z215_0), .unset, .unset, .unset, .unset, .unset, .unset, .unset] [])) (fun t k => XS.istore X215.here hx rfl (hb hby at_83) rfl  (l' := #[.val (.int p0), .val (.int p1), .val (.int p2), .val (.int p3), .val (.int p4), .val (.int p5), .val (.int q), .val (.int c0), .val (.int c1), .val (.int c2), .val (.int c3), .val (.int c4), .val (.ref x1), .val (.ref x2), .val (.int z215_0), .unset, .unset, .unset, .unset, .unset, .unset, .unset]) rfl k) ?_
  refine own_st (fr' := (mkF m 87 #[.val (.int p0), .val (.int p1), .val (.int p2), .val (.int p3), .val (.int p4), .val (.int p5), .val (.int q), .val (.int c0), .val (.int c1), .val (.int c2), .val (.int c3), .val (.int c4), .val (.ref x1), .val (.ref x2), .val (.int z215_0), .unset, .unset, .unset, .unset, .unset, .unset, .unset] [(.int q)])) (fun t k => XS.iload X215.here hx rfl (hb hby at_85) rfl  k) ?_
  refine own_st (fr' := (mkF m 88 #[.val (.int p0), .val (.int p1), .val (.int p2), .val (.int p3), .val (.int p4), .val (.int p5), .val (.int q), .val (.int c0), .val (.int c1), .val (.int c2), .val (.int c3), .val (.int c4), .val (.ref x1), .val (.ref x2), .val (.int z215_0), .unset, .unset, .unset, .unset, .unset, .unset, .unset] [(.int (1 : Int32)), (.int q)])) (fun t k => XS.iconst X215.here hx rfl (hb hby at_87) k) ?_
  suffices J216 : ∀ (T : State) (L : List Loc) (z218_0 : Int32), Stand p l e room_1 (s.setVm vm212) m #[(.int p0), (.int p1), (.int p2), (.int p3), (.int p4), (.int p5)] below meth cD T L (((((((0 + 1) + 1) + 1) + 1) + 1) + 4) + 3) (((((((0 + 16) + 16) + 16) + 16) + 16) + 24) + 19) → T.heap = T212.heap → Fr n0 L → (z218_0.toInt = own_k 1 q.toInt c1) → Go p e below (.cold Z own_EL s) room_1.cells room_1.slots (Q_law Z p0 p1 p2 p3 p4 p5 cz fv h0 n0) T (mkF m 104 #[.val (.int p0), .val (.int p1), .val (.int p2), .val (.int p3), .val (.int p4), .val (.int p5), .val (.int q), .val (.int c0), .val (.int c1), .val (.int c2), .val (.int c3), .val (.int c4), .val (.ref x1), .val (.ref x2), .val (.int z215_0), .unset, .unset, .unset, .unset, .unset, .unset, .unset] [(.int z218_0)]) by
    by_cases hf1 : 1 < q.toInt
    · refine own_st (fr' := (mkF m 91 #[.val (.int p0), .val (.int p1), .val (.int p2), .val (.int p3), .val (.int p4), .val (.int p5), .val (.int q), .val (.int c0), .val (.int c1), .val (.int c2), .val (.int c3), .val (.int c4), .val (.ref x1), .val (.ref x2), .val (.int z215_0), .unset, .unset, .unset, .unset, .unset, .unset, .unset] [])) (fun t k => XS.icmpNo X215.here hx rfl (hb hby at_88) rfl (own_tlt (x := (1 : Int32)) (y := q) hf1).2.2.2 k) ?_
      refine own_st (fr' := (mkF m 93 #[.val (.int p0), .val (.int p1), .val (.int p2), .val (.int p3), .val (.int p4), .val (.int p5), .val (.int q), .val (.int c0), .val (.int c1), .val (.int c2), .val (.int c3), .val (.int c4), .val (.ref x1), .val (.ref x2), .val (.int z215_0), .unset, .unset, .unset, .unset, .unset, .unset, .unset] [(.int c1)])) (fun t k => XS.iload X215.here hx rfl (hb hby at_91) rfl  k) ?_
      refine own_callS X215 hx hZ (y := (⟨"com/example/linkvouch/linkvouch/AttributeValueTrimmedPinLaw", "ws", "(C)Z"⟩ : MethodName)) hown (hw _ (List.mem_of_getElem? (i := 118) rfl)) (hw _ (List.mem_of_getElem? (i := 119) rfl)) (hw _ (List.mem_of_getElem? (i := 3) rfl)) (hw _ (List.mem_of_getElem? (i := 120) rfl)) (by decide) (argsL := [(.int c1)]) (rest := []) (W := 0) (rm_ws l Z a0 hw [] c1 T212.heap n0 (Nat.le_trans (Nat.le_trans (Nat.le_trans (Nat.le_trans (Nat.le_trans (Nat.le_trans (Nat.le_trans Z0 K201.1) K203.1) K205.1) K207.1) K209.1) K211.1) K212.1) ) e215 (by rw [hml]; rfl) (lenOf pd_26 rfl) rfl (Nat.le_of_eq rfl) (hb hby at_93) (by decide) (by decide) (by decide) (by decide) ?_
      intro v217 T217 L217 X217 hQ217
      obtain ⟨⟨zz, rfl, hzz⟩, Nq217, eq217⟩ := hQ217
      have N217 := Fr.app N215 Nq217
      by_cases hg1 : zz.toInt = 0
      · refine own_st (fr' := (mkF m 99 #[.val (.int p0), .val (.int p1), .val (.int p2), .val (.int p3), .val (.int p4), .val (.int p5), .val (.int q), .val (.int c0), .val (.int c1), .val (.int c2), .val (.int c3), .val (.int c4), .val (.ref x1), .val (.ref x2), .val (.int z215_0), .unset, .unset, .unset, .unset, .unset, .unset, .unset] [])) (fun t k => XS.ifNo X217.here hx rfl (hb hby at_96) rfl ((if0 _ _).trans (own_teq (x := zz) (y := (0 : Int32)) hg1).2) k) ?_
        refine own_st (fr' := (mkF m 100 #[.val (.int p0), .val (.int p1), .val (.int p2), .val (.int p3), .val (.int p4), .val (.int p5), .val (.int q), .val (.int c0), .val (.int c1), .val (.int c2), .val (.int c3), .val (.int c4), .val (.ref x1), .val (.ref x2), .val (.int z215_0), .unset, .unset, .unset, .unset, .unset, .unset, .unset] [(.int (1 : Int32))])) (fun t k => XS.iconst X217.here hx rfl (hb hby at_99) k) ?_
        refine own_st (fr' := (mkF m 104 #[.val (.int p0), .val (.int p1), .val (.int p2), .val (.int p3), .val (.int p4), .val (.int p5), .val (.int q), .val (.int c0), .val (.int c1), .val (.int c2), .val (.int c3), .val (.int c4), .val (.ref x1), .val (.ref x2), .val (.int z215_0), .unset, .unset, .unset, .unset, .unset, .unset, .unset] [(.int (1 : Int32))])) (fun t k => XS.goto X217.here hx rfl (pc0 := 100) (pc' := 104) rfl (hb hby at_100) (by decide) (by decide) k) ?_
        exact J216 _ _ (1 : Int32) X217 eq217 N217 (own_kY hf1 hzz hg1)
      · refine own_st (fr' := (mkF m 103 #[.val (.int p0), .val (.int p1), .val (.int p2), .val (.int p3), .val (.int p4), .val (.int p5), .val (.int q), .val (.int c0), .val (.int c1), .val (.int c2), .val (.int c3), .val (.int c4), .val (.ref x1), .val (.ref x2), .val (.int z215_0), .unset, .unset, .unset, .unset, .unset, .unset, .unset] [])) (fun t k => XS.ifYes X217.here hx rfl (pc0 := 96) (pc' := 103) rfl (hb hby at_96) rfl ((if0 _ _).trans (own_feq (x := zz) (y := (0 : Int32)) hg1).2) (by decide) (by decide) k) ?_
        refine own_st (fr' := (mkF m 104 #[.val (.int p0), .val (.int p1), .val (.int p2), .val (.int p3), .val (.int p4), .val (.int p5), .val (.int q), .val (.int c0), .val (.int c1), .val (.int c2), .val (.int c3), .val (.int c4), .val (.ref x1), .val (.ref x2), .val (.int z215_0), .unset, .unset, .unset, .unset, .unset, .unset, .unset] [(.int (0 : Int32))])) (fun t k => XS.iconst X217.here hx rfl (hb hby at_103) k) ?_
        exact J216 _ _ (0 : Int32) X217 eq217 N217 (own_kW hzz hg1)
    · refine own_st (fr' := (mkF m 103 #[.val (.int p0), .val (.int p1), .val (.int p2), .val (.int p3), .val (.int p4), .val (.int p5), .val (.int q), .val (.int c0), .val (.int c1), .val (.int c2), .val (.int c3), .val (.int c4), .val (.ref x1), .val (.ref x2), .val (.int z215_0), .unset, .unset, .unset, .unset, .unset, .unset, .unset] [])) (fun t k => XS.icmpYes X215.here hx rfl (pc0 := 88) (pc' := 103) rfl (hb hby at_88) rfl (own_flt (x := (1 : Int32)) (y := q) hf1).2.2.2 (by decide) (by decide) k) ?_
      refine own_st (fr' := (mkF m 104 #[.val (.int p0), .val (.int p1), .val (.int p2), .val (.int p3), .val (.int p4), .val (.int p5), .val (.int q), .val (.int c0), .val (.int c1), .val (.int c2), .val (.int c3), .val (.int c4), .val (.ref x1), .val (.ref x2), .val (.int z215_0), .unset, .unset, .unset, .unset, .unset, .unset, .unset] [(.int (0 : Int32))])) (fun t k => XS.iconst X215.here hx rfl (hb hby at_103) k) ?_
      exact J216 _ _ (0 : Int32) X215 e215 N215 (own_kN hf1)
  intro T218 L218 z218_0 X218 e218 N218 hz218
  refine own_st (fr' := (mkF m 106 #[.val (.int p0), .val (.int p1), .val (.int p2), .val (.int p3), .val (.int p4), .val (.int p5), .val (.int q), .val (.int c0), .val (.int c1), .val (.int c2), .val (.int c3), .val (.int c4), .val (.ref x1), .val (.ref x2), .val (.int z215_0), .val (.int z218_0), .unset, .unset, .unset, .unset, .unset, .unset] [])) (fun t k => XS.istore X218.here hx rfl (hb hby at_104) rfl  (l' := #[.val (.int p0), .val (.int p1), .val (.int p2), .val (.int p3), .val (.int p4), .val (.int p5), .val (.int q), .val (.int c0), .val (.int c1), .val (.int c2), .val (.int c3), .val (.int c4), .val (.ref x1), .val (.ref x2), .val (.int z215_0), .val (.int z218_0), .unset, .unset, .unset, .unset, .unset, .unset]) rfl k) ?_
  refine own_st (fr' := (mkF m 108 #[.val (.int p0), .val (.int p1), .val (.int p2), .val (.int p3), .val (.int p4), .val (.int p5), .val (.int q), .val (.int c0), .val (.int c1), .val (.int c2), .val (.int c3), .val (.int c4), .val (.ref x1), .val (.ref x2), .val (.int z215_0), .val (.int z218_0), .unset, .unset, .unset, .unset, .unset, .unset] [(.int q)])) (fun t k => XS.iload X218.here hx rfl (hb hby at_106) rfl  k) ?_
  refine own_st (fr' := (mkF m 109 #[.val (.int p0), .val (.int p1), .val (.int p2), .val (.int p3), .val (.int p4), .val (.int p5), .val (.int q), .val (.int c0), .val (.int c1), .val (.int c2), .val (.int c3), .val (.int c4), .val (.ref x1), .val (.ref x2), .val (.int z215_0), .val (.int z218_0), .unset, .unset, .unset, .unset, .unset, .unset] [(.int (2 : Int32)), (.int q)])) (fun t k => XS.iconst X218.here hx rfl (hb hby at_108) k) ?_
  suffices J219 : ∀ (T : State) (L : List Loc) (z221_0 : Int32), Stand p l e room_1 (s.setVm vm212) m #[(.int p0), (.int p1), (.int p2), (.int p3), (.int p4), (.int p5)] below meth cD T L (((((((0 + 1) + 1) + 1) + 1) + 1) + 4) + 3) (((((((0 + 16) + 16) + 16) + 16) + 16) + 24) + 19) → T.heap = T212.heap → Fr n0 L → (z221_0.toInt = own_k 2 q.toInt c2) → Go p e below (.cold Z own_EL s) room_1.cells room_1.slots (Q_law Z p0 p1 p2 p3 p4 p5 cz fv h0 n0) T (mkF m 125 #[.val (.int p0), .val (.int p1), .val (.int p2), .val (.int p3), .val (.int p4), .val (.int p5), .val (.int q), .val (.int c0), .val (.int c1), .val (.int c2), .val (.int c3), .val (.int c4), .val (.ref x1), .val (.ref x2), .val (.int z215_0), .val (.int z218_0), .unset, .unset, .unset, .unset, .unset, .unset] [(.int z221_0)]) by
    by_cases hf2 : 2 < q.toInt
    · refine own_st (fr' := (mkF m 112 #[.val (.int p0), .val (.int p1), .val (.int p2), .val (.int p3), .val (.int p4), .val (.int p5), .val (.int q), .val (.int c0), .val (.int c1), .val (.int c2), .val (.int c3), .val (.int c4), .val (.ref x1), .val (.ref x2), .val (.int z215_0), .val (.int z218_0), .unset, .unset, .unset, .unset, .unset, .unset] [])) (fun t k => XS.icmpNo X218.here hx rfl (hb hby at_109) rfl (own_tlt (x := (2 : Int32)) (y := q) hf2).2.2.2 k) ?_
      refine own_st (fr' := (mkF m 114 #[.val (.int p0), .val (.int p1), .val (.int p2), .val (.int p3), .val (.int p4), .val (.int p5), .val (.int q), .val (.int c0), .val (.int c1), .val (.int c2), .val (.int c3), .val (.int c4), .val (.ref x1), .val (.ref x2), .val (.int z215_0), .val (.int z218_0), .unset, .unset, .unset, .unset, .unset, .unset] [(.int c2)])) (fun t k => XS.iload X218.here hx rfl (hb hby at_112) rfl  k) ?_
      refine own_callS X218 hx hZ (y := (⟨"com/example/linkvouch/linkvouch/AttributeValueTrimmedPinLaw", "ws", "(C)Z"⟩ : MethodName)) hown (hw _ (List.mem_of_getElem? (i := 118) rfl)) (hw _ (List.mem_of_getElem? (i := 119) rfl)) (hw _ (List.mem_of_getElem? (i := 3) rfl)) (hw _ (List.mem_of_getElem? (i := 120) rfl)) (by decide) (argsL := [(.int c2)]) (rest := []) (W := 0) (rm_ws l Z a0 hw [] c2 T212.heap n0 (Nat.le_trans (Nat.le_trans (Nat.le_trans (Nat.le_trans (Nat.le_trans (Nat.le_trans (Nat.le_trans Z0 K201.1) K203.1) K205.1) K207.1) K209.1) K211.1) K212.1) ) e218 (by rw [hml]; rfl) (lenOf pd_26 rfl) rfl (Nat.le_of_eq rfl) (hb hby at_114) (by decide) (by decide) (by decide) (by decide) ?_
      intro v220 T220 L220 X220 hQ220
      obtain ⟨⟨zz, rfl, hzz⟩, Nq220, eq220⟩ := hQ220
      have N220 := Fr.app N218 Nq220
      by_cases hg2 : zz.toInt = 0
      · refine own_st (fr' := (mkF m 120 #[.val (.int p0), .val (.int p1), .val (.int p2), .val (.int p3), .val (.int p4), .val (.int p5), .val (.int q), .val (.int c0), .val (.int c1), .val (.int c2), .val (.int c3), .val (.int c4), .val (.ref x1), .val (.ref x2), .val (.int z215_0), .val (.int z218_0), .unset, .unset, .unset, .unset, .unset, .unset] [])) (fun t k => XS.ifNo X220.here hx rfl (hb hby at_117) rfl ((if0 _ _).trans (own_teq (x := zz) (y := (0 : Int32)) hg2).2) k) ?_
        refine own_st (fr' := (mkF m 121 #[.val (.int p0), .val (.int p1), .val (.int p2), .val (.int p3), .val (.int p4), .val (.int p5), .val (.int q), .val (.int c0), .val (.int c1), .val (.int c2), .val (.int c3), .val (.int c4), .val (.ref x1), .val (.ref x2), .val (.int z215_0), .val (.int z218_0), .unset, .unset, .unset, .unset, .unset, .unset] [(.int (1 : Int32))])) (fun t k => XS.iconst X220.here hx rfl (hb hby at_120) k) ?_
        refine own_st (fr' := (mkF m 125 #[.val (.int p0), .val (.int p1), .val (.int p2), .val (.int p3), .val (.int p4), .val (.int p5), .val (.int q), .val (.int c0), .val (.int c1), .val (.int c2), .val (.int c3), .val (.int c4), .val (.ref x1), .val (.ref x2), .val (.int z215_0), .val (.int z218_0), .unset, .unset, .unset, .unset, .unset, .unset] [(.int (1 : Int32))])) (fun t k => XS.goto X220.here hx rfl (pc0 := 121) (pc' := 125) rfl (hb hby at_121) (by decide) (by decide) k) ?_
        exact J219 _ _ (1 : Int32) X220 eq220 N220 (own_kY hf2 hzz hg2)
      · refine own_st (fr' := (mkF m 124 #[.val (.int p0), .val (.int p1), .val (.int p2), .val (.int p3), .val (.int p4), .val (.int p5), .val (.int q), .val (.int c0), .val (.int c1), .val (.int c2), .val (.int c3), .val (.int c4), .val (.ref x1), .val (.ref x2), .val (.int z215_0), .val (.int z218_0), .unset, .unset, .unset, .unset, .unset, .unset] [])) (fun t k => XS.ifYes X220.here hx rfl (pc0 := 117) (pc' := 124) rfl (hb hby at_117) rfl ((if0 _ _).trans (own_feq (x := zz) (y := (0 : Int32)) hg2).2) (by decide) (by decide) k) ?_
        refine own_st (fr' := (mkF m 125 #[.val (.int p0), .val (.int p1), .val (.int p2), .val (.int p3), .val (.int p4), .val (.int p5), .val (.int q), .val (.int c0), .val (.int c1), .val (.int c2), .val (.int c3), .val (.int c4), .val (.ref x1), .val (.ref x2), .val (.int z215_0), .val (.int z218_0), .unset, .unset, .unset, .unset, .unset, .unset] [(.int (0 : Int32))])) (fun t k => XS.iconst X220.here hx rfl (hb hby at_124) k) ?_
        exact J219 _ _ (0 : Int32) X220 eq220 N220 (own_kW hzz hg2)
    · refine own_st (fr' := (mkF m 124 #[.val (.int p0), .val (.int p1), .val (.int p2), .val (.int p3), .val (.int p4), .val (.int p5), .val (.int q), .val (.int c0), .val (.int c1), .val (.int c2), .val (.int c3), .val (.int c4), .val (.ref x1), .val (.ref x2), .val (.int z215_0), .val (.int z218_0), .unset, .unset, .unset, .unset, .unset, .unset] [])) (fun t k => XS.icmpYes X218.here hx rfl (pc0 := 109) (pc' := 124) rfl (hb hby at_109) rfl (own_flt (x := (2 : Int32)) (y := q) hf2).2.2.2 (by decide) (by decide) k) ?_
      refine own_st (fr' := (mkF m 125 #[.val (.int p0), .val (.int p1), .val (.int p2), .val (.int p3), .val (.int p4), .val (.int p5), .val (.int q), .val (.int c0), .val (.int c1), .val (.int c2), .val (.int c3), .val (.int c4), .val (.ref x1), .val (.ref x2), .val (.int z215_0), .val (.int z218_0), .unset, .unset, .unset, .unset, .unset, .unset] [(.int (0 : Int32))])) (fun t k => XS.iconst X218.here hx rfl (hb hby at_124) k) ?_
      exact J219 _ _ (0 : Int32) X218 e218 N218 (own_kN hf2)
  intro T221 L221 z221_0 X221 e221 N221 hz221
  refine own_st (fr' := (mkF m 127 #[.val (.int p0), .val (.int p1), .val (.int p2), .val (.int p3), .val (.int p4), .val (.int p5), .val (.int q), .val (.int c0), .val (.int c1), .val (.int c2), .val (.int c3), .val (.int c4), .val (.ref x1), .val (.ref x2), .val (.int z215_0), .val (.int z218_0), .val (.int z221_0), .unset, .unset, .unset, .unset, .unset] [])) (fun t k => XS.istore X221.here hx rfl (hb hby at_125) rfl  (l' := #[.val (.int p0), .val (.int p1), .val (.int p2), .val (.int p3), .val (.int p4), .val (.int p5), .val (.int q), .val (.int c0), .val (.int c1), .val (.int c2), .val (.int c3), .val (.int c4), .val (.ref x1), .val (.ref x2), .val (.int z215_0), .val (.int z218_0), .val (.int z221_0), .unset, .unset, .unset, .unset, .unset]) rfl k) ?_
  refine own_st (fr' := (mkF m 129 #[.val (.int p0), .val (.int p1), .val (.int p2), .val (.int p3), .val (.int p4), .val (.int p5), .val (.int q), .val (.int c0), .val (.int c1), .val (.int c2), .val (.int c3), .val (.int c4), .val (.ref x1), .val (.ref x2), .val (.int z215_0), .val (.int z218_0), .val (.int z221_0), .unset, .unset, .unset, .unset, .unset] [(.int q)])) (fun t k => XS.iload X221.here hx rfl (hb hby at_127) rfl  k) ?_
  refine own_st (fr' := (mkF m 130 #[.val (.int p0), .val (.int p1), .val (.int p2), .val (.int p3), .val (.int p4), .val (.int p5), .val (.int q), .val (.int c0), .val (.int c1), .val (.int c2), .val (.int c3), .val (.int c4), .val (.ref x1), .val (.ref x2), .val (.int z215_0), .val (.int z218_0), .val (.int z221_0), .unset, .unset, .unset, .unset, .unset] [(.int (3 : Int32)), (.int q)])) (fun t k => XS.iconst X221.here hx rfl (hb hby at_129) k) ?_
  suffices J222 : ∀ (T : State) (L : List Loc) (z224_0 : Int32), Stand p l e room_1 (s.setVm vm212) m #[(.int p0), (.int p1), (.int p2), (.int p3), (.int p4), (.int p5)] below meth cD T L (((((((0 + 1) + 1) + 1) + 1) + 1) + 4) + 3) (((((((0 + 16) + 16) + 16) + 16) + 16) + 24) + 19) → T.heap = T212.heap → Fr n0 L → (z224_0.toInt = own_k 3 q.toInt c3) → Go p e below (.cold Z own_EL s) room_1.cells room_1.slots (Q_law Z p0 p1 p2 p3 p4 p5 cz fv h0 n0) T (mkF m 146 #[.val (.int p0), .val (.int p1), .val (.int p2), .val (.int p3), .val (.int p4), .val (.int p5), .val (.int q), .val (.int c0), .val (.int c1), .val (.int c2), .val (.int c3), .val (.int c4), .val (.ref x1), .val (.ref x2), .val (.int z215_0), .val (.int z218_0), .val (.int z221_0), .unset, .unset, .unset, .unset, .unset] [(.int z224_0)]) by
    by_cases hf3 : 3 < q.toInt
    · refine own_st (fr' := (mkF m 133 #[.val (.int p0), .val (.int p1), .val (.int p2), .val (.int p3), .val (.int p4), .val (.int p5), .val (.int q), .val (.int c0), .val (.int c1), .val (.int c2), .val (.int c3), .val (.int c4), .val (.ref x1), .val (.ref x2), .val (.int z215_0), .val (.int z218_0), .val (.int z221_0), .unset, .unset, .unset, .unset, .unset] [])) (fun t k => XS.icmpNo X221.here hx rfl (hb hby at_130) rfl (own_tlt (x := (3 : Int32)) (y := q) hf3).2.2.2 k) ?_
      refine own_st (fr' := (mkF m 135 #[.val (.int p0), .val (.int p1), .val (.int p2), .val (.int p3), .val (.int p4), .val (.int p5), .val (.int q), .val (.int c0), .val (.int c1), .val (.int c2), .val (.int c3), .val (.int c4), .val (.ref x1), .val (.ref x2), .val (.int z215_0), .val (.int z218_0), .val (.int z221_0), .unset, .unset, .unset, .unset, .unset] [(.int c3)])) (fun t k => XS.iload X221.here hx rfl (hb hby at_133) rfl  k) ?_
      refine own_callS X221 hx hZ (y := (⟨"com/example/linkvouch/linkvouch/AttributeValueTrimmedPinLaw", "ws", "(C)Z"⟩ : MethodName)) hown (hw _ (List.mem_of_getElem? (i := 118) rfl)) (hw _ (List.mem_of_getElem? (i := 119) rfl)) (hw _ (List.mem_of_getElem? (i := 3) rfl)) (hw _ (List.mem_of_getElem? (i := 120) rfl)) (by decide) (argsL := [(.int c3)]) (rest := []) (W := 0) (rm_ws l Z a0 hw [] c3 T212.heap n0 (Nat.le_trans (Nat.le_trans (Nat.le_trans (Nat.le_trans (Nat.le_trans (Nat.le_trans (Nat.le_trans Z0 K201.1) K203.1) K205.1) K207.1) K209.1) K211.1) K212.1) ) e221 (by rw [hml]; rfl) (lenOf pd_26 rfl) rfl (Nat.le_of_eq rfl) (hb hby at_135) (by decide) (by decide) (by decide) (by decide) ?_
      intro v223 T223 L223 X223 hQ223
      obtain ⟨⟨zz, rfl, hzz⟩, Nq223, eq223⟩ := hQ223
      have N223 := Fr.app N221 Nq223
      by_cases hg3 : zz.toInt = 0
      · refine own_st (fr' := (mkF m 141 #[.val (.int p0), .val (.int p1), .val (.int p2), .val (.int p3), .val (.int p4), .val (.int p5), .val (.int q), .val (.int c0), .val (.int c1), .val (.int c2), .val (.int c3), .val (.int c4), .val (.ref x1), .val (.ref x2), .val (.int z215_0), .val (.int z218_0), .val (.int z221_0), .unset, .unset, .unset, .unset, .unset] [])) (fun t k => XS.ifNo X223.here hx rfl (hb hby at_138) rfl ((if0 _ _).trans (own_teq (x := zz) (y := (0 : Int32)) hg3).2) k) ?_
        refine own_st (fr' := (mkF m 142 #[.val (.int p0), .val (.int p1), .val (.int p2), .val (.int p3), .val (.int p4), .val (.int p5), .val (.int q), .val (.int c0), .val (.int c1), .val (.int c2), .val (.int c3), .val (.int c4), .val (.ref x1), .val (.ref x2), .val (.int z215_0), .val (.int z218_0), .val (.int z221_0), .unset, .unset, .unset, .unset, .unset] [(.int (1 : Int32))])) (fun t k => XS.iconst X223.here hx rfl (hb hby at_141) k) ?_
        refine own_st (fr' := (mkF m 146 #[.val (.int p0), .val (.int p1), .val (.int p2), .val (.int p3), .val (.int p4), .val (.int p5), .val (.int q), .val (.int c0), .val (.int c1), .val (.int c2), .val (.int c3), .val (.int c4), .val (.ref x1), .val (.ref x2), .val (.int z215_0), .val (.int z218_0), .val (.int z221_0), .unset, .unset, .unset, .unset, .unset] [(.int (1 : Int32))])) (fun t k => XS.goto X223.here hx rfl (pc0 := 142) (pc' := 146) rfl (hb hby at_142) (by decide) (by decide) k) ?_
        exact J222 _ _ (1 : Int32) X223 eq223 N223 (own_kY hf3 hzz hg3)
      · refine own_st (fr' := (mkF m 145 #[.val (.int p0), .val (.int p1), .val (.int p2), .val (.int p3), .val (.int p4), .val (.int p5), .val (.int q), .val (.int c0), .val (.int c1), .val (.int c2), .val (.int c3), .val (.int c4), .val (.ref x1), .val (.ref x2), .val (.int z215_0), .val (.int z218_0), .val (.int z221_0), .unset, .unset, .unset, .unset, .unset] [])) (fun t k => XS.ifYes X223.here hx rfl (pc0 := 138) (pc' := 145) rfl (hb hby at_138) rfl ((if0 _ _).trans (own_feq (x := zz) (y := (0 : Int32)) hg3).2) (by decide) (by decide) k) ?_
        refine own_st (fr' := (mkF m 146 #[.val (.int p0), .val (.int p1), .val (.int p2), .val (.int p3), .val (.int p4), .val (.int p5), .val (.int q), .val (.int c0), .val (.int c1), .val (.int c2), .val (.int c3), .val (.int c4), .val (.ref x1), .val (.ref x2), .val (.int z215_0), .val (.int z218_0), .val (.int z221_0), .unset, .unset, .unset, .unset, .unset] [(.int (0 : Int32))])) (fun t k => XS.iconst X223.here hx rfl (hb hby at_145) k) ?_
        exact J222 _ _ (0 : Int32) X223 eq223 N223 (own_kW hzz hg3)
    · refine own_st (fr' := (mkF m 145 #[.val (.int p0), .val (.int p1), .val (.int p2), .val (.int p3), .val (.int p4), .val (.int p5), .val (.int q), .val (.int c0), .val (.int c1), .val (.int c2), .val (.int c3), .val (.int c4), .val (.ref x1), .val (.ref x2), .val (.int z215_0), .val (.int z218_0), .val (.int z221_0), .unset, .unset, .unset, .unset, .unset] [])) (fun t k => XS.icmpYes X221.here hx rfl (pc0 := 130) (pc' := 145) rfl (hb hby at_130) rfl (own_flt (x := (3 : Int32)) (y := q) hf3).2.2.2 (by decide) (by decide) k) ?_
      refine own_st (fr' := (mkF m 146 #[.val (.int p0), .val (.int p1), .val (.int p2), .val (.int p3), .val (.int p4), .val (.int p5), .val (.int q), .val (.int c0), .val (.int c1), .val (.int c2), .val (.int c3), .val (.int c4), .val (.ref x1), .val (.ref x2), .val (.int z215_0), .val (.int z218_0), .val (.int z221_0), .unset, .unset, .unset, .unset, .unset] [(.int (0 : Int32))])) (fun t k => XS.iconst X221.here hx rfl (hb hby at_145) k) ?_
      exact J222 _ _ (0 : Int32) X221 e221 N221 (own_kN hf3)
  intro T224 L224 z224_0 X224 e224 N224 hz224
  refine own_st (fr' := (mkF m 148 #[.val (.int p0), .val (.int p1), .val (.int p2), .val (.int p3), .val (.int p4), .val (.int p5), .val (.int q), .val (.int c0), .val (.int c1), .val (.int c2), .val (.int c3), .val (.int c4), .val (.ref x1), .val (.ref x2), .val (.int z215_0), .val (.int z218_0), .val (.int z221_0), .val (.int z224_0), .unset, .unset, .unset, .unset] [])) (fun t k => XS.istore X224.here hx rfl (hb hby at_146) rfl  (l' := #[.val (.int p0), .val (.int p1), .val (.int p2), .val (.int p3), .val (.int p4), .val (.int p5), .val (.int q), .val (.int c0), .val (.int c1), .val (.int c2), .val (.int c3), .val (.int c4), .val (.ref x1), .val (.ref x2), .val (.int z215_0), .val (.int z218_0), .val (.int z221_0), .val (.int z224_0), .unset, .unset, .unset, .unset]) rfl k) ?_
  refine own_st (fr' := (mkF m 150 #[.val (.int p0), .val (.int p1), .val (.int p2), .val (.int p3), .val (.int p4), .val (.int p5), .val (.int q), .val (.int c0), .val (.int c1), .val (.int c2), .val (.int c3), .val (.int c4), .val (.ref x1), .val (.ref x2), .val (.int z215_0), .val (.int z218_0), .val (.int z221_0), .val (.int z224_0), .unset, .unset, .unset, .unset] [(.int q)])) (fun t k => XS.iload X224.here hx rfl (hb hby at_148) rfl  k) ?_
  refine own_st (fr' := (mkF m 151 #[.val (.int p0), .val (.int p1), .val (.int p2), .val (.int p3), .val (.int p4), .val (.int p5), .val (.int q), .val (.int c0), .val (.int c1), .val (.int c2), .val (.int c3), .val (.int c4), .val (.ref x1), .val (.ref x2), .val (.int z215_0), .val (.int z218_0), .val (.int z221_0), .val (.int z224_0), .unset, .unset, .unset, .unset] [(.int (4 : Int32)), (.int q)])) (fun t k => XS.iconst X224.here hx rfl (hb hby at_150) k) ?_
  suffices J225 : ∀ (T : State) (L : List Loc) (z227_0 : Int32), Stand p l e room_1 (s.setVm vm212) m #[(.int p0), (.int p1), (.int p2), (.int p3), (.int p4), (.int p5)] below meth cD T L (((((((0 + 1) + 1) + 1) + 1) + 1) + 4) + 3) (((((((0 + 16) + 16) + 16) + 16) + 16) + 24) + 19) → T.heap = T212.heap → Fr n0 L → (z227_0.toInt = own_k 4 q.toInt c4) → Go p e below (.cold Z own_EL s) room_1.cells room_1.slots (Q_law Z p0 p1 p2 p3 p4 p5 cz fv h0 n0) T (mkF m 167 #[.val (.int p0), .val (.int p1), .val (.int p2), .val (.int p3), .val (.int p4), .val (.int p5), .val (.int q), .val (.int c0), .val (.int c1), .val (.int c2), .val (.int c3), .val (.int c4), .val (.ref x1), .val (.ref x2), .val (.int z215_0), .val (.int z218_0), .val (.int z221_0), .val (.int z224_0), .unset, .unset, .unset, .unset] [(.int z227_0)]) by
    by_cases hf4 : 4 < q.toInt
    · refine own_st (fr' := (mkF m 154 #[.val (.int p0), .val (.int p1), .val (.int p2), .val (.int p3), .val (.int p4), .val (.int p5), .val (.int q), .val (.int c0), .val (.int c1), .val (.int c2), .val (.int c3), .val (.int c4), .val (.ref x1), .val (.ref x2), .val (.int z215_0), .val (.int z218_0), .val (.int z221_0), .val (.int z224_0), .unset, .unset, .unset, .unset] [])) (fun t k => XS.icmpNo X224.here hx rfl (hb hby at_151) rfl (own_tlt (x := (4 : Int32)) (y := q) hf4).2.2.2 k) ?_
      refine own_st (fr' := (mkF m 156 #[.val (.int p0), .val (.int p1), .val (.int p2), .val (.int p3), .val (.int p4), .val (.int p5), .val (.int q), .val (.int c0), .val (.int c1), .val (.int c2), .val (.int c3), .val (.int c4), .val (.ref x1), .val (.ref x2), .val (.int z215_0), .val (.int z218_0), .val (.int z221_0), .val (.int z224_0), .unset, .unset, .unset, .unset] [(.int c4)])) (fun t k => XS.iload X224.here hx rfl (hb hby at_154) rfl  k) ?_
      refine own_callS X224 hx hZ (y := (⟨"com/example/linkvouch/linkvouch/AttributeValueTrimmedPinLaw", "ws", "(C)Z"⟩ : MethodName)) hown (hw _ (List.mem_of_getElem? (i := 118) rfl)) (hw _ (List.mem_of_getElem? (i := 119) rfl)) (hw _ (List.mem_of_getElem? (i := 3) rfl)) (hw _ (List.mem_of_getElem? (i := 120) rfl)) (by decide) (argsL := [(.int c4)]) (rest := []) (W := 0) (rm_ws l Z a0 hw [] c4 T212.heap n0 (Nat.le_trans (Nat.le_trans (Nat.le_trans (Nat.le_trans (Nat.le_trans (Nat.le_trans (Nat.le_trans Z0 K201.1) K203.1) K205.1) K207.1) K209.1) K211.1) K212.1) ) e224 (by rw [hml]; rfl) (lenOf pd_26 rfl) rfl (Nat.le_of_eq rfl) (hb hby at_156) (by decide) (by decide) (by decide) (by decide) ?_
      intro v226 T226 L226 X226 hQ226
      obtain ⟨⟨zz, rfl, hzz⟩, Nq226, eq226⟩ := hQ226
      have N226 := Fr.app N224 Nq226
      by_cases hg4 : zz.toInt = 0
      · refine own_st (fr' := (mkF m 162 #[.val (.int p0), .val (.int p1), .val (.int p2), .val (.int p3), .val (.int p4), .val (.int p5), .val (.int q), .val (.int c0), .val (.int c1), .val (.int c2), .val (.int c3), .val (.int c4), .val (.ref x1), .val (.ref x2), .val (.int z215_0), .val (.int z218_0), .val (.int z221_0), .val (.int z224_0), .unset, .unset, .unset, .unset] [])) (fun t k => XS.ifNo X226.here hx rfl (hb hby at_159) rfl ((if0 _ _).trans (own_teq (x := zz) (y := (0 : Int32)) hg4).2) k) ?_
        refine own_st (fr' := (mkF m 163 #[.val (.int p0), .val (.int p1), .val (.int p2), .val (.int p3), .val (.int p4), .val (.int p5), .val (.int q), .val (.int c0), .val (.int c1), .val (.int c2), .val (.int c3), .val (.int c4), .val (.ref x1), .val (.ref x2), .val (.int z215_0), .val (.int z218_0), .val (.int z221_0), .val (.int z224_0), .unset, .unset, .unset, .unset] [(.int (1 : Int32))])) (fun t k => XS.iconst X226.here hx rfl (hb hby at_162) k) ?_
        refine own_st (fr' := (mkF m 167 #[.val (.int p0), .val (.int p1), .val (.int p2), .val (.int p3), .val (.int p4), .val (.int p5), .val (.int q), .val (.int c0), .val (.int c1), .val (.int c2), .val (.int c3), .val (.int c4), .val (.ref x1), .val (.ref x2), .val (.int z215_0), .val (.int z218_0), .val (.int z221_0), .val (.int z224_0), .unset, .unset, .unset, .unset] [(.int (1 : Int32))])) (fun t k => XS.goto X226.here hx rfl (pc0 := 163) (pc' := 167) rfl (hb hby at_163) (by decide) (by decide) k) ?_
        exact J225 _ _ (1 : Int32) X226 eq226 N226 (own_kY hf4 hzz hg4)
      · refine own_st (fr' := (mkF m 166 #[.val (.int p0), .val (.int p1), .val (.int p2), .val (.int p3), .val (.int p4), .val (.int p5), .val (.int q), .val (.int c0), .val (.int c1), .val (.int c2), .val (.int c3), .val (.int c4), .val (.ref x1), .val (.ref x2), .val (.int z215_0), .val (.int z218_0), .val (.int z221_0), .val (.int z224_0), .unset, .unset, .unset, .unset] [])) (fun t k => XS.ifYes X226.here hx rfl (pc0 := 159) (pc' := 166) rfl (hb hby at_159) rfl ((if0 _ _).trans (own_feq (x := zz) (y := (0 : Int32)) hg4).2) (by decide) (by decide) k) ?_
        refine own_st (fr' := (mkF m 167 #[.val (.int p0), .val (.int p1), .val (.int p2), .val (.int p3), .val (.int p4), .val (.int p5), .val (.int q), .val (.int c0), .val (.int c1), .val (.int c2), .val (.int c3), .val (.int c4), .val (.ref x1), .val (.ref x2), .val (.int z215_0), .val (.int z218_0), .val (.int z221_0), .val (.int z224_0), .unset, .unset, .unset, .unset] [(.int (0 : Int32))])) (fun t k => XS.iconst X226.here hx rfl (hb hby at_166) k) ?_
        exact J225 _ _ (0 : Int32) X226 eq226 N226 (own_kW hzz hg4)
    · refine own_st (fr' := (mkF m 166 #[.val (.int p0), .val (.int p1), .val (.int p2), .val (.int p3), .val (.int p4), .val (.int p5), .val (.int q), .val (.int c0), .val (.int c1), .val (.int c2), .val (.int c3), .val (.int c4), .val (.ref x1), .val (.ref x2), .val (.int z215_0), .val (.int z218_0), .val (.int z221_0), .val (.int z224_0), .unset, .unset, .unset, .unset] [])) (fun t k => XS.icmpYes X224.here hx rfl (pc0 := 151) (pc' := 166) rfl (hb hby at_151) rfl (own_flt (x := (4 : Int32)) (y := q) hf4).2.2.2 (by decide) (by decide) k) ?_
      refine own_st (fr' := (mkF m 167 #[.val (.int p0), .val (.int p1), .val (.int p2), .val (.int p3), .val (.int p4), .val (.int p5), .val (.int q), .val (.int c0), .val (.int c1), .val (.int c2), .val (.int c3), .val (.int c4), .val (.ref x1), .val (.ref x2), .val (.int z215_0), .val (.int z218_0), .val (.int z221_0), .val (.int z224_0), .unset, .unset, .unset, .unset] [(.int (0 : Int32))])) (fun t k => XS.iconst X224.here hx rfl (hb hby at_166) k) ?_
      exact J225 _ _ (0 : Int32) X224 e224 N224 (own_kN hf4)
  intro T227 L227 z227_0 X227 e227 N227 hz227
  refine own_st (fr' := (mkF m 169 #[.val (.int p0), .val (.int p1), .val (.int p2), .val (.int p3), .val (.int p4), .val (.int p5), .val (.int q), .val (.int c0), .val (.int c1), .val (.int c2), .val (.int c3), .val (.int c4), .val (.ref x1), .val (.ref x2), .val (.int z215_0), .val (.int z218_0), .val (.int z221_0), .val (.int z224_0), .val (.int z227_0), .unset, .unset, .unset] [])) (fun t k => XS.istore X227.here hx rfl (hb hby at_167) rfl  (l' := #[.val (.int p0), .val (.int p1), .val (.int p2), .val (.int p3), .val (.int p4), .val (.int p5), .val (.int q), .val (.int c0), .val (.int c1), .val (.int c2), .val (.int c3), .val (.int c4), .val (.ref x1), .val (.ref x2), .val (.int z215_0), .val (.int z218_0), .val (.int z221_0), .val (.int z224_0), .val (.int z227_0), .unset, .unset, .unset]) rfl k) ?_
  refine own_st (fr' := (mkF m 171 #[.val (.int p0), .val (.int p1), .val (.int p2), .val (.int p3), .val (.int p4), .val (.int p5), .val (.int q), .val (.int c0), .val (.int c1), .val (.int c2), .val (.int c3), .val (.int c4), .val (.ref x1), .val (.ref x2), .val (.int z215_0), .val (.int z218_0), .val (.int z221_0), .val (.int z224_0), .val (.int z227_0), .unset, .unset, .unset] [(.int z215_0)])) (fun t k => XS.iload X227.here hx rfl (hb hby at_169) rfl  k) ?_
  suffices J228 : ∀ (z234_0 : Int32), (z234_0.toInt = own_first z215_0.toInt z218_0.toInt z221_0.toInt z224_0.toInt z227_0.toInt) → Go p e below (.cold Z own_EL s) room_1.cells room_1.slots (Q_law Z p0 p1 p2 p3 p4 p5 cz fv h0 n0) T227 (mkF m 215 #[.val (.int p0), .val (.int p1), .val (.int p2), .val (.int p3), .val (.int p4), .val (.int p5), .val (.int q), .val (.int c0), .val (.int c1), .val (.int c2), .val (.int c3), .val (.int c4), .val (.ref x1), .val (.ref x2), .val (.int z215_0), .val (.int z218_0), .val (.int z221_0), .val (.int z224_0), .val (.int z227_0), .unset, .unset, .unset] [(.int z234_0)]) by
    by_cases hc229 : z215_0.toInt = 0
    · refine own_st (fr' := (mkF m 178 #[.val (.int p0), .val (.int p1), .val (.int p2), .val (.int p3), .val (.int p4), .val (.int p5), .val (.int q), .val (.int c0), .val (.int c1), .val (.int c2), .val (.int c3), .val (.int c4), .val (.ref x1), .val (.ref x2), .val (.int z215_0), .val (.int z218_0), .val (.int z221_0), .val (.int z224_0), .val (.int z227_0), .unset, .unset, .unset] [])) (fun t k => XS.ifYes X227.here hx rfl (pc0 := 171) (pc' := 178) rfl (hb hby at_171) rfl ((if0 _ _).trans (own_teq (x := z215_0) (y := (0 : Int32)) hc229).1) (by decide) (by decide) k) ?_
      refine own_st (fr' := (mkF m 180 #[.val (.int p0), .val (.int p1), .val (.int p2), .val (.int p3), .val (.int p4), .val (.int p5), .val (.int q), .val (.int c0), .val (.int c1), .val (.int c2), .val (.int c3), .val (.int c4), .val (.ref x1), .val (.ref x2), .val (.int z215_0), .val (.int z218_0), .val (.int z221_0), .val (.int z224_0), .val (.int z227_0), .unset, .unset, .unset] [(.int z218_0)])) (fun t k => XS.iload X227.here hx rfl (hb hby at_178) rfl  k) ?_
      by_cases hc230 : z218_0.toInt = 0
      · refine own_st (fr' := (mkF m 187 #[.val (.int p0), .val (.int p1), .val (.int p2), .val (.int p3), .val (.int p4), .val (.int p5), .val (.int q), .val (.int c0), .val (.int c1), .val (.int c2), .val (.int c3), .val (.int c4), .val (.ref x1), .val (.ref x2), .val (.int z215_0), .val (.int z218_0), .val (.int z221_0), .val (.int z224_0), .val (.int z227_0), .unset, .unset, .unset] [])) (fun t k => XS.ifYes X227.here hx rfl (pc0 := 180) (pc' := 187) rfl (hb hby at_180) rfl ((if0 _ _).trans (own_teq (x := z218_0) (y := (0 : Int32)) hc230).1) (by decide) (by decide) k) ?_
        refine own_st (fr' := (mkF m 189 #[.val (.int p0), .val (.int p1), .val (.int p2), .val (.int p3), .val (.int p4), .val (.int p5), .val (.int q), .val (.int c0), .val (.int c1), .val (.int c2), .val (.int c3), .val (.int c4), .val (.ref x1), .val (.ref x2), .val (.int z215_0), .val (.int z218_0), .val (.int z221_0), .val (.int z224_0), .val (.int z227_0), .unset, .unset, .unset] [(.int z221_0)])) (fun t k => XS.iload X227.here hx rfl (hb hby at_187) rfl  k) ?_
        by_cases hc231 : z221_0.toInt = 0
        · refine own_st (fr' := (mkF m 196 #[.val (.int p0), .val (.int p1), .val (.int p2), .val (.int p3), .val (.int p4), .val (.int p5), .val (.int q), .val (.int c0), .val (.int c1), .val (.int c2), .val (.int c3), .val (.int c4), .val (.ref x1), .val (.ref x2), .val (.int z215_0), .val (.int z218_0), .val (.int z221_0), .val (.int z224_0), .val (.int z227_0), .unset, .unset, .unset] [])) (fun t k => XS.ifYes X227.here hx rfl (pc0 := 189) (pc' := 196) rfl (hb hby at_189) rfl ((if0 _ _).trans (own_teq (x := z221_0) (y := (0 : Int32)) hc231).1) (by decide) (by decide) k) ?_
          refine own_st (fr' := (mkF m 198 #[.val (.int p0), .val (.int p1), .val (.int p2), .val (.int p3), .val (.int p4), .val (.int p5), .val (.int q), .val (.int c0), .val (.int c1), .val (.int c2), .val (.int c3), .val (.int c4), .val (.ref x1), .val (.ref x2), .val (.int z215_0), .val (.int z218_0), .val (.int z221_0), .val (.int z224_0), .val (.int z227_0), .unset, .unset, .unset] [(.int z224_0)])) (fun t k => XS.iload X227.here hx rfl (hb hby at_196) rfl  k) ?_
          by_cases hc232 : z224_0.toInt = 0
          · refine own_st (fr' := (mkF m 205 #[.val (.int p0), .val (.int p1), .val (.int p2), .val (.int p3), .val (.int p4), .val (.int p5), .val (.int q), .val (.int c0), .val (.int c1), .val (.int c2), .val (.int c3), .val (.int c4), .val (.ref x1), .val (.ref x2), .val (.int z215_0), .val (.int z218_0), .val (.int z221_0), .val (.int z224_0), .val (.int z227_0), .unset, .unset, .unset] [])) (fun t k => XS.ifYes X227.here hx rfl (pc0 := 198) (pc' := 205) rfl (hb hby at_198) rfl ((if0 _ _).trans (own_teq (x := z224_0) (y := (0 : Int32)) hc232).1) (by decide) (by decide) k) ?_
            refine own_st (fr' := (mkF m 207 #[.val (.int p0), .val (.int p1), .val (.int p2), .val (.int p3), .val (.int p4), .val (.int p5), .val (.int q), .val (.int c0), .val (.int c1), .val (.int c2), .val (.int c3), .val (.int c4), .val (.ref x1), .val (.ref x2), .val (.int z215_0), .val (.int z218_0), .val (.int z221_0), .val (.int z224_0), .val (.int z227_0), .unset, .unset, .unset] [(.int z227_0)])) (fun t k => XS.iload X227.here hx rfl (hb hby at_205) rfl  k) ?_
            by_cases hc233 : z227_0.toInt = 0
            · refine own_st (fr' := (mkF m 214 #[.val (.int p0), .val (.int p1), .val (.int p2), .val (.int p3), .val (.int p4), .val (.int p5), .val (.int q), .val (.int c0), .val (.int c1), .val (.int c2), .val (.int c3), .val (.int c4), .val (.ref x1), .val (.ref x2), .val (.int z215_0), .val (.int z218_0), .val (.int z221_0), .val (.int z224_0), .val (.int z227_0), .unset, .unset, .unset] [])) (fun t k => XS.ifYes X227.here hx rfl (pc0 := 207) (pc' := 214) rfl (hb hby at_207) rfl ((if0 _ _).trans (own_teq (x := z227_0) (y := (0 : Int32)) hc233).1) (by decide) (by decide) k) ?_
              refine own_st (fr' := (mkF m 215 #[.val (.int p0), .val (.int p1), .val (.int p2), .val (.int p3), .val (.int p4), .val (.int p5), .val (.int q), .val (.int c0), .val (.int c1), .val (.int c2), .val (.int c3), .val (.int c4), .val (.ref x1), .val (.ref x2), .val (.int z215_0), .val (.int z218_0), .val (.int z221_0), .val (.int z224_0), .val (.int z227_0), .unset, .unset, .unset] [(.int (-1 : Int32))])) (fun t k => XS.iconst X227.here hx rfl (hb hby at_214) k) ?_
              exact J228  (-1 : Int32) (by unfold own_first; rw [if_pos hc229, if_pos hc230, if_pos hc231, if_pos hc232, if_pos hc233] <;> rfl)
            · refine own_st (fr' := (mkF m 210 #[.val (.int p0), .val (.int p1), .val (.int p2), .val (.int p3), .val (.int p4), .val (.int p5), .val (.int q), .val (.int c0), .val (.int c1), .val (.int c2), .val (.int c3), .val (.int c4), .val (.ref x1), .val (.ref x2), .val (.int z215_0), .val (.int z218_0), .val (.int z221_0), .val (.int z224_0), .val (.int z227_0), .unset, .unset, .unset] [])) (fun t k => XS.ifNo X227.here hx rfl (hb hby at_207) rfl ((if0 _ _).trans (own_feq (x := z227_0) (y := (0 : Int32)) hc233).1) k) ?_
              refine own_st (fr' := (mkF m 211 #[.val (.int p0), .val (.int p1), .val (.int p2), .val (.int p3), .val (.int p4), .val (.int p5), .val (.int q), .val (.int c0), .val (.int c1), .val (.int c2), .val (.int c3), .val (.int c4), .val (.ref x1), .val (.ref x2), .val (.int z215_0), .val (.int z218_0), .val (.int z221_0), .val (.int z224_0), .val (.int z227_0), .unset, .unset, .unset] [(.int (4 : Int32))])) (fun t k => XS.iconst X227.here hx rfl (hb hby at_210) k) ?_
              refine own_st (fr' := (mkF m 215 #[.val (.int p0), .val (.int p1), .val (.int p2), .val (.int p3), .val (.int p4), .val (.int p5), .val (.int q), .val (.int c0), .val (.int c1), .val (.int c2), .val (.int c3), .val (.int c4), .val (.ref x1), .val (.ref x2), .val (.int z215_0), .val (.int z218_0), .val (.int z221_0), .val (.int z224_0), .val (.int z227_0), .unset, .unset, .unset] [(.int (4 : Int32))])) (fun t k => XS.goto X227.here hx rfl (pc0 := 211) (pc' := 215) rfl (hb hby at_211) (by decide) (by decide) k) ?_
              exact J228  (4 : Int32) (by unfold own_first; rw [if_pos hc229, if_pos hc230, if_pos hc231, if_pos hc232, if_neg hc233] <;> rfl)
          · refine own_st (fr' := (mkF m 201 #[.val (.int p0), .val (.int p1), .val (.int p2), .val (.int p3), .val (.int p4), .val (.int p5), .val (.int q), .val (.int c0), .val (.int c1), .val (.int c2), .val (.int c3), .val (.int c4), .val (.ref x1), .val (.ref x2), .val (.int z215_0), .val (.int z218_0), .val (.int z221_0), .val (.int z224_0), .val (.int z227_0), .unset, .unset, .unset] [])) (fun t k => XS.ifNo X227.here hx rfl (hb hby at_198) rfl ((if0 _ _).trans (own_feq (x := z224_0) (y := (0 : Int32)) hc232).1) k) ?_
            refine own_st (fr' := (mkF m 202 #[.val (.int p0), .val (.int p1), .val (.int p2), .val (.int p3), .val (.int p4), .val (.int p5), .val (.int q), .val (.int c0), .val (.int c1), .val (.int c2), .val (.int c3), .val (.int c4), .val (.ref x1), .val (.ref x2), .val (.int z215_0), .val (.int z218_0), .val (.int z221_0), .val (.int z224_0), .val (.int z227_0), .unset, .unset, .unset] [(.int (3 : Int32))])) (fun t k => XS.iconst X227.here hx rfl (hb hby at_201) k) ?_
            refine own_st (fr' := (mkF m 215 #[.val (.int p0), .val (.int p1), .val (.int p2), .val (.int p3), .val (.int p4), .val (.int p5), .val (.int q), .val (.int c0), .val (.int c1), .val (.int c2), .val (.int c3), .val (.int c4), .val (.ref x1), .val (.ref x2), .val (.int z215_0), .val (.int z218_0), .val (.int z221_0), .val (.int z224_0), .val (.int z227_0), .unset, .unset, .unset] [(.int (3 : Int32))])) (fun t k => XS.goto X227.here hx rfl (pc0 := 202) (pc' := 215) rfl (hb hby at_202) (by decide) (by decide) k) ?_
            exact J228  (3 : Int32) (by unfold own_first; rw [if_pos hc229, if_pos hc230, if_pos hc231, if_neg hc232] <;> rfl)
        · refine own_st (fr' := (mkF m 192 #[.val (.int p0), .val (.int p1), .val (.int p2), .val (.int p3), .val (.int p4), .val (.int p5), .val (.int q), .val (.int c0), .val (.int c1), .val (.int c2), .val (.int c3), .val (.int c4), .val (.ref x1), .val (.ref x2), .val (.int z215_0), .val (.int z218_0), .val (.int z221_0), .val (.int z224_0), .val (.int z227_0), .unset, .unset, .unset] [])) (fun t k => XS.ifNo X227.here hx rfl (hb hby at_189) rfl ((if0 _ _).trans (own_feq (x := z221_0) (y := (0 : Int32)) hc231).1) k) ?_
          refine own_st (fr' := (mkF m 193 #[.val (.int p0), .val (.int p1), .val (.int p2), .val (.int p3), .val (.int p4), .val (.int p5), .val (.int q), .val (.int c0), .val (.int c1), .val (.int c2), .val (.int c3), .val (.int c4), .val (.ref x1), .val (.ref x2), .val (.int z215_0), .val (.int z218_0), .val (.int z221_0), .val (.int z224_0), .val (.int z227_0), .unset, .unset, .unset] [(.int (2 : Int32))])) (fun t k => XS.iconst X227.here hx rfl (hb hby at_192) k) ?_
          refine own_st (fr' := (mkF m 215 #[.val (.int p0), .val (.int p1), .val (.int p2), .val (.int p3), .val (.int p4), .val (.int p5), .val (.int q), .val (.int c0), .val (.int c1), .val (.int c2), .val (.int c3), .val (.int c4), .val (.ref x1), .val (.ref x2), .val (.int z215_0), .val (.int z218_0), .val (.int z221_0), .val (.int z224_0), .val (.int z227_0), .unset, .unset, .unset] [(.int (2 : Int32))])) (fun t k => XS.goto X227.here hx rfl (pc0 := 193) (pc' := 215) rfl (hb hby at_193) (by decide) (by decide) k) ?_
          exact J228  (2 : Int32) (by unfold own_first; rw [if_pos hc229, if_pos hc230, if_neg hc231] <;> rfl)
      · refine own_st (fr' := (mkF m 183 #[.val (.int p0), .val (.int p1), .val (.int p2), .val (.int p3), .val (.int p4), .val (.int p5), .val (.int q), .val (.int c0), .val (.int c1), .val (.int c2), .val (.int c3), .val (.int c4), .val (.ref x1), .val (.ref x2), .val (.int z215_0), .val (.int z218_0), .val (.int z221_0), .val (.int z224_0), .val (.int z227_0), .unset, .unset, .unset] [])) (fun t k => XS.ifNo X227.here hx rfl (hb hby at_180) rfl ((if0 _ _).trans (own_feq (x := z218_0) (y := (0 : Int32)) hc230).1) k) ?_
        refine own_st (fr' := (mkF m 184 #[.val (.int p0), .val (.int p1), .val (.int p2), .val (.int p3), .val (.int p4), .val (.int p5), .val (.int q), .val (.int c0), .val (.int c1), .val (.int c2), .val (.int c3), .val (.int c4), .val (.ref x1), .val (.ref x2), .val (.int z215_0), .val (.int z218_0), .val (.int z221_0), .val (.int z224_0), .val (.int z227_0), .unset, .unset, .unset] [(.int (1 : Int32))])) (fun t k => XS.iconst X227.here hx rfl (hb hby at_183) k) ?_
        refine own_st (fr' := (mkF m 215 #[.val (.int p0), .val (.int p1), .val (.int p2), .val (.int p3), .val (.int p4), .val (.int p5), .val (.int q), .val (.int c0), .val (.int c1), .val (.int c2), .val (.int c3), .val (.int c4), .val (.ref x1), .val (.ref x2), .val (.int z215_0), .val (.int z218_0), .val (.int z221_0), .val (.int z224_0), .val (.int z227_0), .unset, .unset, .unset] [(.int (1 : Int32))])) (fun t k => XS.goto X227.here hx rfl (pc0 := 184) (pc' := 215) rfl (hb hby at_184) (by decide) (by decide) k) ?_
        exact J228  (1 : Int32) (by unfold own_first; rw [if_pos hc229, if_neg hc230] <;> rfl)
    · refine own_st (fr' := (mkF m 174 #[.val (.int p0), .val (.int p1), .val (.int p2), .val (.int p3), .val (.int p4), .val (.int p5), .val (.int q), .val (.int c0), .val (.int c1), .val (.int c2), .val (.int c3), .val (.int c4), .val (.ref x1), .val (.ref x2), .val (.int z215_0), .val (.int z218_0), .val (.int z221_0), .val (.int z224_0), .val (.int z227_0), .unset, .unset, .unset] [])) (fun t k => XS.ifNo X227.here hx rfl (hb hby at_171) rfl ((if0 _ _).trans (own_feq (x := z215_0) (y := (0 : Int32)) hc229).1) k) ?_
      refine own_st (fr' := (mkF m 175 #[.val (.int p0), .val (.int p1), .val (.int p2), .val (.int p3), .val (.int p4), .val (.int p5), .val (.int q), .val (.int c0), .val (.int c1), .val (.int c2), .val (.int c3), .val (.int c4), .val (.ref x1), .val (.ref x2), .val (.int z215_0), .val (.int z218_0), .val (.int z221_0), .val (.int z224_0), .val (.int z227_0), .unset, .unset, .unset] [(.int (0 : Int32))])) (fun t k => XS.iconst X227.here hx rfl (hb hby at_174) k) ?_
      refine own_st (fr' := (mkF m 215 #[.val (.int p0), .val (.int p1), .val (.int p2), .val (.int p3), .val (.int p4), .val (.int p5), .val (.int q), .val (.int c0), .val (.int c1), .val (.int c2), .val (.int c3), .val (.int c4), .val (.ref x1), .val (.ref x2), .val (.int z215_0), .val (.int z218_0), .val (.int z221_0), .val (.int z224_0), .val (.int z227_0), .unset, .unset, .unset] [(.int (0 : Int32))])) (fun t k => XS.goto X227.here hx rfl (pc0 := 175) (pc' := 215) rfl (hb hby at_175) (by decide) (by decide) k) ?_
      exact J228  (0 : Int32) (by unfold own_first; rw [if_neg hc229] <;> rfl)
  intro z234_0 hz234
  refine own_st (fr' := (mkF m 217 #[.val (.int p0), .val (.int p1), .val (.int p2), .val (.int p3), .val (.int p4), .val (.int p5), .val (.int q), .val (.int c0), .val (.int c1), .val (.int c2), .val (.int c3), .val (.int c4), .val (.ref x1), .val (.ref x2), .val (.int z215_0), .val (.int z218_0), .val (.int z221_0), .val (.int z224_0), .val (.int z227_0), .val (.int z234_0), .unset, .unset] [])) (fun t k => XS.istore X227.here hx rfl (hb hby at_215) rfl  (l' := #[.val (.int p0), .val (.int p1), .val (.int p2), .val (.int p3), .val (.int p4), .val (.int p5), .val (.int q), .val (.int c0), .val (.int c1), .val (.int c2), .val (.int c3), .val (.int c4), .val (.ref x1), .val (.ref x2), .val (.int z215_0), .val (.int z218_0), .val (.int z221_0), .val (.int z224_0), .val (.int z227_0), .val (.int z234_0), .unset, .unset]) rfl k) ?_
  refine own_st (fr' := (mkF m 219 #[.val (.int p0), .val (.int p1), .val (.int p2), .val (.int p3), .val (.int p4), .val (.int p5), .val (.int q), .val (.int c0), .val (.int c1), .val (.int c2), .val (.int c3), .val (.int c4), .val (.ref x1), .val (.ref x2), .val (.int z215_0), .val (.int z218_0), .val (.int z221_0), .val (.int z224_0), .val (.int z227_0), .val (.int z234_0), .unset, .unset] [(.int z234_0)])) (fun t k => XS.iload X227.here hx rfl (hb hby at_217) rfl  k) ?_
  have hfl := own_plain hq.2 hTr
  rw [← hz215, ← hz218, ← hz221, ← hz224, ← hz227, ← hz234] at hfl
  by_cases hneg : z234_0.toInt < 0
  · refine own_st (fr' := (mkF m 222 #[.val (.int p0), .val (.int p1), .val (.int p2), .val (.int p3), .val (.int p4), .val (.int p5), .val (.int q), .val (.int c0), .val (.int c1), .val (.int c2), .val (.int c3), .val (.int c4), .val (.ref x1), .val (.ref x2), .val (.int z215_0), .val (.int z218_0), .val (.int z221_0), .val (.int z224_0), .val (.int z227_0), .val (.int z234_0), .unset, .unset] [])) (fun t k => XS.ifNo X227.here hx rfl (hb hby at_219) rfl ((if0 _ _).trans (own_tlt (x := z234_0) (y := (0 : Int32)) hneg).2.1) k) ?_
    refine own_st (fr' := (mkF m 224 #[.val (.int p0), .val (.int p1), .val (.int p2), .val (.int p3), .val (.int p4), .val (.int p5), .val (.int q), .val (.int c0), .val (.int c1), .val (.int c2), .val (.int c3), .val (.int c4), .val (.ref x1), .val (.ref x2), .val (.int z215_0), .val (.int z218_0), .val (.int z221_0), .val (.int z224_0), .val (.int z227_0), .val (.int z234_0), .unset, .unset] [(.ref x2)])) (fun t k => XS.aload X227.here hx rfl (hb hby at_222) rfl rfl k) ?_
    obtain ⟨ht0, -⟩ := hTr
    have hil0 : il.toInt = 0 := by rcases hfl with u | u <;> omega
    refine own_callV X227 hx hZ (y := (⟨"java/lang/String", "length", "()I"⟩ : MethodName)) (z := (⟨"java/lang/String", "length", "()I"⟩ : MethodName)) hown (hw _ (List.mem_of_getElem? (i := 59) rfl)) (hw _ (List.mem_of_getElem? (i := 35) rfl)) (notFace_of_selects (args := #[]) (mvT hZ (hw _ (List.mem_of_getElem? (i := 37) rfl)))) (hw _ (List.mem_of_getElem? (i := 37) rfl)) (hw _ (List.mem_of_getElem? (i := 36) rfl)) (hw _ (List.mem_of_getElem? (i := 11) rfl)) (hw _ (List.mem_of_getElem? (i := 38) rfl)) (by decide) (a := x2) (argsL := []) (rest := []) (W := 0) (rm_slen l Z a0 hw [] x2 il _ cz fv T212.heap n0 (Nat.le_trans (Nat.le_trans (Nat.le_trans (Nat.le_trans (Nat.le_trans (Nat.le_trans (Nat.le_trans Z0 K201.1) K203.1) K205.1) K207.1) K209.1) K211.1) K212.1) PS2 (own_sk0 (own_sk0 (own_sk0 (own_sk0 (own_sk0 (own_sk0 (own_sk0 S_cs K201) K203) K205) K207) K209) K211) K212) (own_sk0 (own_sk0 (own_sk0 (own_sk0 (own_sk0 (own_sk0 (own_sk0 S_fm K201) K203) K205) K207) K209) K211) K212) (own_sk0 (own_sk0 (own_sk0 (own_sk0 (own_sk0 (own_sk0 (own_sk0 S_as K201) K203) K205) K207) K209) K211) K212) (own_sk0 (own_sk0 (own_sk0 (own_sk0 (own_sk0 (own_sk0 (own_sk0 S_hi K201) K203) K205) K207) K209) K211) K212) (own_sk0 (own_sk0 (own_sk0 (own_sk0 (own_sk0 (own_sk0 (own_sk0 S_lo K201) K203) K205) K207) K209) K211) K212) hcz hfv) e227 EX2 (by rw [hml]; rfl) (lenOf pd_22 rfl) rfl (Nat.le_of_eq rfl) (hb hby at_224) (by decide) (by decide) (by decide) (by decide) ?_
    intro v235 T235 L235 X235 hQ235
    obtain ⟨rfl, Nq235, eq235⟩ := hQ235
    have N235 := Fr.app N227 Nq235
    refine own_st (fr' := (mkF m 230 #[.val (.int p0), .val (.int p1), .val (.int p2), .val (.int p3), .val (.int p4), .val (.int p5), .val (.int q), .val (.int c0), .val (.int c1), .val (.int c2), .val (.int c3), .val (.int c4), .val (.ref x1), .val (.ref x2), .val (.int z215_0), .val (.int z218_0), .val (.int z221_0), .val (.int z224_0), .val (.int z227_0), .val (.int z234_0), .unset, .unset] [])) (fun t k => XS.ifNo X235.here hx rfl (hb hby at_227) rfl ((if0 _ _).trans (own_teq (x := il) (y := (0 : Int32)) (show il.toInt = 0 from hil0)).2) k) ?_
    refine own_st (fr' := (mkF m 231 #[.val (.int p0), .val (.int p1), .val (.int p2), .val (.int p3), .val (.int p4), .val (.int p5), .val (.int q), .val (.int c0), .val (.int c1), .val (.int c2), .val (.int c3), .val (.int c4), .val (.ref x1), .val (.ref x2), .val (.int z215_0), .val (.int z218_0), .val (.int z221_0), .val (.int z224_0), .val (.int z227_0), .val (.int z234_0), .unset, .unset] [(.int (1 : Int32))])) (fun t k => XS.iconst X235.here hx rfl (hb hby at_230) k) ?_
    refine own_st (fr' := (mkF m 235 #[.val (.int p0), .val (.int p1), .val (.int p2), .val (.int p3), .val (.int p4), .val (.int p5), .val (.int q), .val (.int c0), .val (.int c1), .val (.int c2), .val (.int c3), .val (.int c4), .val (.ref x1), .val (.ref x2), .val (.int z215_0), .val (.int z218_0), .val (.int z221_0), .val (.int z224_0), .val (.int z227_0), .val (.int z234_0), .unset, .unset] [(.int (1 : Int32))])) (fun t k => XS.goto X235.here hx rfl (pc0 := 231) (pc' := 235) rfl (hb hby at_231) (by decide) (by decide) k) ?_
    exact own_retC X235 hx hlk hZ hS (Nat.le_refl _) (own_ew hw) r212 eq235 hret (rfl) (Or.inl ⟨rfl, by simp [ret], _, rfl⟩) (hb hby at_235) (by decide) (by decide) (⟨rfl, N235⟩)
  · refine own_st (fr' := (mkF m 236 #[.val (.int p0), .val (.int p1), .val (.int p2), .val (.int p3), .val (.int p4), .val (.int p5), .val (.int q), .val (.int c0), .val (.int c1), .val (.int c2), .val (.int c3), .val (.int c4), .val (.ref x1), .val (.ref x2), .val (.int z215_0), .val (.int z218_0), .val (.int z221_0), .val (.int z224_0), .val (.int z227_0), .val (.int z234_0), .unset, .unset] [])) (fun t k => XS.ifYes X227.here hx rfl (pc0 := 219) (pc' := 236) rfl (hb hby at_219) rfl ((if0 _ _).trans (own_flt (x := z234_0) (y := (0 : Int32)) hneg).2.1) (by decide) (by decide) k) ?_
    obtain ⟨hfa, hae, hla⟩ := hfl.resolve_left (fun u => hneg u.1)
    refine own_st (fr' := (mkF m 238 #[.val (.int p0), .val (.int p1), .val (.int p2), .val (.int p3), .val (.int p4), .val (.int p5), .val (.int q), .val (.int c0), .val (.int c1), .val (.int c2), .val (.int c3), .val (.int c4), .val (.ref x1), .val (.ref x2), .val (.int z215_0), .val (.int z218_0), .val (.int z221_0), .val (.int z224_0), .val (.int z227_0), .val (.int z234_0), .unset, .unset] [(.int z227_0)])) (fun t k => XS.iload X227.here hx rfl (hb hby at_236) rfl  k) ?_
    suffices J236 : ∀ (z241_0 : Int32), (z241_0.toInt = own_last z215_0.toInt z218_0.toInt z221_0.toInt z224_0.toInt z227_0.toInt) → Go p e below (.cold Z own_EL s) room_1.cells room_1.slots (Q_law Z p0 p1 p2 p3 p4 p5 cz fv h0 n0) T227 (mkF m 273 #[.val (.int p0), .val (.int p1), .val (.int p2), .val (.int p3), .val (.int p4), .val (.int p5), .val (.int q), .val (.int c0), .val (.int c1), .val (.int c2), .val (.int c3), .val (.int c4), .val (.ref x1), .val (.ref x2), .val (.int z215_0), .val (.int z218_0), .val (.int z221_0), .val (.int z224_0), .val (.int z227_0), .val (.int z234_0), .unset, .unset] [(.int z241_0)]) by
      by_cases hc237 : z227_0.toInt = 0
      · refine own_st (fr' := (mkF m 245 #[.val (.int p0), .val (.int p1), .val (.int p2), .val (.int p3), .val (.int p4), .val (.int p5), .val (.int q), .val (.int c0), .val (.int c1), .val (.int c2), .val (.int c3), .val (.int c4), .val (.ref x1), .val (.ref x2), .val (.int z215_0), .val (.int z218_0), .val (.int z221_0), .val (.int z224_0), .val (.int z227_0), .val (.int z234_0), .unset, .unset] [])) (fun t k => XS.ifYes X227.here hx rfl (pc0 := 238) (pc' := 245) rfl (hb hby at_238) rfl ((if0 _ _).trans (own_teq (x := z227_0) (y := (0 : Int32)) hc237).1) (by decide) (by decide) k) ?_
        refine own_st (fr' := (mkF m 247 #[.val (.int p0), .val (.int p1), .val (.int p2), .val (.int p3), .val (.int p4), .val (.int p5), .val (.int q), .val (.int c0), .val (.int c1), .val (.int c2), .val (.int c3), .val (.int c4), .val (.ref x1), .val (.ref x2), .val (.int z215_0), .val (.int z218_0), .val (.int z221_0), .val (.int z224_0), .val (.int z227_0), .val (.int z234_0), .unset, .unset] [(.int z224_0)])) (fun t k => XS.iload X227.here hx rfl (hb hby at_245) rfl  k) ?_
        by_cases hc238 : z224_0.toInt = 0
        · refine own_st (fr' := (mkF m 254 #[.val (.int p0), .val (.int p1), .val (.int p2), .val (.int p3), .val (.int p4), .val (.int p5), .val (.int q), .val (.int c0), .val (.int c1), .val (.int c2), .val (.int c3), .val (.int c4), .val (.ref x1), .val (.ref x2), .val (.int z215_0), .val (.int z218_0), .val (.int z221_0), .val (.int z224_0), .val (.int z227_0), .val (.int z234_0), .unset, .unset] [])) (fun t k => XS.ifYes X227.here hx rfl (pc0 := 247) (pc' := 254) rfl (hb hby at_247) rfl ((if0 _ _).trans (own_teq (x := z224_0) (y := (0 : Int32)) hc238).1) (by decide) (by decide) k) ?_
          refine own_st (fr' := (mkF m 256 #[.val (.int p0), .val (.int p1), .val (.int p2), .val (.int p3), .val (.int p4), .val (.int p5), .val (.int q), .val (.int c0), .val (.int c1), .val (.int c2), .val (.int c3), .val (.int c4), .val (.ref x1), .val (.ref x2), .val (.int z215_0), .val (.int z218_0), .val (.int z221_0), .val (.int z224_0), .val (.int z227_0), .val (.int z234_0), .unset, .unset] [(.int z221_0)])) (fun t k => XS.iload X227.here hx rfl (hb hby at_254) rfl  k) ?_
          by_cases hc239 : z221_0.toInt = 0
          · refine own_st (fr' := (mkF m 263 #[.val (.int p0), .val (.int p1), .val (.int p2), .val (.int p3), .val (.int p4), .val (.int p5), .val (.int q), .val (.int c0), .val (.int c1), .val (.int c2), .val (.int c3), .val (.int c4), .val (.ref x1), .val (.ref x2), .val (.int z215_0), .val (.int z218_0), .val (.int z221_0), .val (.int z224_0), .val (.int z227_0), .val (.int z234_0), .unset, .unset] [])) (fun t k => XS.ifYes X227.here hx rfl (pc0 := 256) (pc' := 263) rfl (hb hby at_256) rfl ((if0 _ _).trans (own_teq (x := z221_0) (y := (0 : Int32)) hc239).1) (by decide) (by decide) k) ?_
            refine own_st (fr' := (mkF m 265 #[.val (.int p0), .val (.int p1), .val (.int p2), .val (.int p3), .val (.int p4), .val (.int p5), .val (.int q), .val (.int c0), .val (.int c1), .val (.int c2), .val (.int c3), .val (.int c4), .val (.ref x1), .val (.ref x2), .val (.int z215_0), .val (.int z218_0), .val (.int z221_0), .val (.int z224_0), .val (.int z227_0), .val (.int z234_0), .unset, .unset] [(.int z218_0)])) (fun t k => XS.iload X227.here hx rfl (hb hby at_263) rfl  k) ?_
            by_cases hc240 : z218_0.toInt = 0
            · refine own_st (fr' := (mkF m 272 #[.val (.int p0), .val (.int p1), .val (.int p2), .val (.int p3), .val (.int p4), .val (.int p5), .val (.int q), .val (.int c0), .val (.int c1), .val (.int c2), .val (.int c3), .val (.int c4), .val (.ref x1), .val (.ref x2), .val (.int z215_0), .val (.int z218_0), .val (.int z221_0), .val (.int z224_0), .val (.int z227_0), .val (.int z234_0), .unset, .unset] [])) (fun t k => XS.ifYes X227.here hx rfl (pc0 := 265) (pc' := 272) rfl (hb hby at_265) rfl ((if0 _ _).trans (own_teq (x := z218_0) (y := (0 : Int32)) hc240).1) (by decide) (by decide) k) ?_
              refine own_st (fr' := (mkF m 273 #[.val (.int p0), .val (.int p1), .val (.int p2), .val (.int p3), .val (.int p4), .val (.int p5), .val (.int q), .val (.int c0), .val (.int c1), .val (.int c2), .val (.int c3), .val (.int c4), .val (.ref x1), .val (.ref x2), .val (.int z215_0), .val (.int z218_0), .val (.int z221_0), .val (.int z224_0), .val (.int z227_0), .val (.int z234_0), .unset, .unset] [(.int (0 : Int32))])) (fun t k => XS.iconst X227.here hx rfl (hb hby at_272) k) ?_
              exact J236  (0 : Int32) (by unfold own_last; rw [if_pos hc237, if_pos hc238, if_pos hc239, if_pos hc240] <;> rfl)
            · refine own_st (fr' := (mkF m 268 #[.val (.int p0), .val (.int p1), .val (.int p2), .val (.int p3), .val (.int p4), .val (.int p5), .val (.int q), .val (.int c0), .val (.int c1), .val (.int c2), .val (.int c3), .val (.int c4), .val (.ref x1), .val (.ref x2), .val (.int z215_0), .val (.int z218_0), .val (.int z221_0), .val (.int z224_0), .val (.int z227_0), .val (.int z234_0), .unset, .unset] [])) (fun t k => XS.ifNo X227.here hx rfl (hb hby at_265) rfl ((if0 _ _).trans (own_feq (x := z218_0) (y := (0 : Int32)) hc240).1) k) ?_
              refine own_st (fr' := (mkF m 269 #[.val (.int p0), .val (.int p1), .val (.int p2), .val (.int p3), .val (.int p4), .val (.int p5), .val (.int q), .val (.int c0), .val (.int c1), .val (.int c2), .val (.int c3), .val (.int c4), .val (.ref x1), .val (.ref x2), .val (.int z215_0), .val (.int z218_0), .val (.int z221_0), .val (.int z224_0), .val (.int z227_0), .val (.int z234_0), .unset, .unset] [(.int (1 : Int32))])) (fun t k => XS.iconst X227.here hx rfl (hb hby at_268) k) ?_
              refine own_st (fr' := (mkF m 273 #[.val (.int p0), .val (.int p1), .val (.int p2), .val (.int p3), .val (.int p4), .val (.int p5), .val (.int q), .val (.int c0), .val (.int c1), .val (.int c2), .val (.int c3), .val (.int c4), .val (.ref x1), .val (.ref x2), .val (.int z215_0), .val (.int z218_0), .val (.int z221_0), .val (.int z224_0), .val (.int z227_0), .val (.int z234_0), .unset, .unset] [(.int (1 : Int32))])) (fun t k => XS.goto X227.here hx rfl (pc0 := 269) (pc' := 273) rfl (hb hby at_269) (by decide) (by decide) k) ?_
              exact J236  (1 : Int32) (by unfold own_last; rw [if_pos hc237, if_pos hc238, if_pos hc239, if_neg hc240] <;> rfl)
          · refine own_st (fr' := (mkF m 259 #[.val (.int p0), .val (.int p1), .val (.int p2), .val (.int p3), .val (.int p4), .val (.int p5), .val (.int q), .val (.int c0), .val (.int c1), .val (.int c2), .val (.int c3), .val (.int c4), .val (.ref x1), .val (.ref x2), .val (.int z215_0), .val (.int z218_0), .val (.int z221_0), .val (.int z224_0), .val (.int z227_0), .val (.int z234_0), .unset, .unset] [])) (fun t k => XS.ifNo X227.here hx rfl (hb hby at_256) rfl ((if0 _ _).trans (own_feq (x := z221_0) (y := (0 : Int32)) hc239).1) k) ?_
            refine own_st (fr' := (mkF m 260 #[.val (.int p0), .val (.int p1), .val (.int p2), .val (.int p3), .val (.int p4), .val (.int p5), .val (.int q), .val (.int c0), .val (.int c1), .val (.int c2), .val (.int c3), .val (.int c4), .val (.ref x1), .val (.ref x2), .val (.int z215_0), .val (.int z218_0), .val (.int z221_0), .val (.int z224_0), .val (.int z227_0), .val (.int z234_0), .unset, .unset] [(.int (2 : Int32))])) (fun t k => XS.iconst X227.here hx rfl (hb hby at_259) k) ?_
            refine own_st (fr' := (mkF m 273 #[.val (.int p0), .val (.int p1), .val (.int p2), .val (.int p3), .val (.int p4), .val (.int p5), .val (.int q), .val (.int c0), .val (.int c1), .val (.int c2), .val (.int c3), .val (.int c4), .val (.ref x1), .val (.ref x2), .val (.int z215_0), .val (.int z218_0), .val (.int z221_0), .val (.int z224_0), .val (.int z227_0), .val (.int z234_0), .unset, .unset] [(.int (2 : Int32))])) (fun t k => XS.goto X227.here hx rfl (pc0 := 260) (pc' := 273) rfl (hb hby at_260) (by decide) (by decide) k) ?_
            exact J236  (2 : Int32) (by unfold own_last; rw [if_pos hc237, if_pos hc238, if_neg hc239] <;> rfl)
        · refine own_st (fr' := (mkF m 250 #[.val (.int p0), .val (.int p1), .val (.int p2), .val (.int p3), .val (.int p4), .val (.int p5), .val (.int q), .val (.int c0), .val (.int c1), .val (.int c2), .val (.int c3), .val (.int c4), .val (.ref x1), .val (.ref x2), .val (.int z215_0), .val (.int z218_0), .val (.int z221_0), .val (.int z224_0), .val (.int z227_0), .val (.int z234_0), .unset, .unset] [])) (fun t k => XS.ifNo X227.here hx rfl (hb hby at_247) rfl ((if0 _ _).trans (own_feq (x := z224_0) (y := (0 : Int32)) hc238).1) k) ?_
          refine own_st (fr' := (mkF m 251 #[.val (.int p0), .val (.int p1), .val (.int p2), .val (.int p3), .val (.int p4), .val (.int p5), .val (.int q), .val (.int c0), .val (.int c1), .val (.int c2), .val (.int c3), .val (.int c4), .val (.ref x1), .val (.ref x2), .val (.int z215_0), .val (.int z218_0), .val (.int z221_0), .val (.int z224_0), .val (.int z227_0), .val (.int z234_0), .unset, .unset] [(.int (3 : Int32))])) (fun t k => XS.iconst X227.here hx rfl (hb hby at_250) k) ?_
          refine own_st (fr' := (mkF m 273 #[.val (.int p0), .val (.int p1), .val (.int p2), .val (.int p3), .val (.int p4), .val (.int p5), .val (.int q), .val (.int c0), .val (.int c1), .val (.int c2), .val (.int c3), .val (.int c4), .val (.ref x1), .val (.ref x2), .val (.int z215_0), .val (.int z218_0), .val (.int z221_0), .val (.int z224_0), .val (.int z227_0), .val (.int z234_0), .unset, .unset] [(.int (3 : Int32))])) (fun t k => XS.goto X227.here hx rfl (pc0 := 251) (pc' := 273) rfl (hb hby at_251) (by decide) (by decide) k) ?_
          exact J236  (3 : Int32) (by unfold own_last; rw [if_pos hc237, if_neg hc238] <;> rfl)
      · refine own_st (fr' := (mkF m 241 #[.val (.int p0), .val (.int p1), .val (.int p2), .val (.int p3), .val (.int p4), .val (.int p5), .val (.int q), .val (.int c0), .val (.int c1), .val (.int c2), .val (.int c3), .val (.int c4), .val (.ref x1), .val (.ref x2), .val (.int z215_0), .val (.int z218_0), .val (.int z221_0), .val (.int z224_0), .val (.int z227_0), .val (.int z234_0), .unset, .unset] [])) (fun t k => XS.ifNo X227.here hx rfl (hb hby at_238) rfl ((if0 _ _).trans (own_feq (x := z227_0) (y := (0 : Int32)) hc237).1) k) ?_
        refine own_st (fr' := (mkF m 242 #[.val (.int p0), .val (.int p1), .val (.int p2), .val (.int p3), .val (.int p4), .val (.int p5), .val (.int q), .val (.int c0), .val (.int c1), .val (.int c2), .val (.int c3), .val (.int c4), .val (.ref x1), .val (.ref x2), .val (.int z215_0), .val (.int z218_0), .val (.int z221_0), .val (.int z224_0), .val (.int z227_0), .val (.int z234_0), .unset, .unset] [(.int (4 : Int32))])) (fun t k => XS.iconst X227.here hx rfl (hb hby at_241) k) ?_
        refine own_st (fr' := (mkF m 273 #[.val (.int p0), .val (.int p1), .val (.int p2), .val (.int p3), .val (.int p4), .val (.int p5), .val (.int q), .val (.int c0), .val (.int c1), .val (.int c2), .val (.int c3), .val (.int c4), .val (.ref x1), .val (.ref x2), .val (.int z215_0), .val (.int z218_0), .val (.int z221_0), .val (.int z224_0), .val (.int z227_0), .val (.int z234_0), .unset, .unset] [(.int (4 : Int32))])) (fun t k => XS.goto X227.here hx rfl (pc0 := 242) (pc' := 273) rfl (hb hby at_242) (by decide) (by decide) k) ?_
        exact J236  (4 : Int32) (by unfold own_last; rw [if_neg hc237] <;> rfl)
    intro z241_0 hz241
    refine own_st (fr' := (mkF m 275 #[.val (.int p0), .val (.int p1), .val (.int p2), .val (.int p3), .val (.int p4), .val (.int p5), .val (.int q), .val (.int c0), .val (.int c1), .val (.int c2), .val (.int c3), .val (.int c4), .val (.ref x1), .val (.ref x2), .val (.int z215_0), .val (.int z218_0), .val (.int z221_0), .val (.int z224_0), .val (.int z227_0), .val (.int z234_0), .val (.int z241_0), .unset] [])) (fun t k => XS.istore X227.here hx rfl (hb hby at_273) rfl  (l' := #[.val (.int p0), .val (.int p1), .val (.int p2), .val (.int p3), .val (.int p4), .val (.int p5), .val (.int q), .val (.int c0), .val (.int c1), .val (.int c2), .val (.int c3), .val (.int c4), .val (.ref x1), .val (.ref x2), .val (.int z215_0), .val (.int z218_0), .val (.int z221_0), .val (.int z224_0), .val (.int z227_0), .val (.int z234_0), .val (.int z241_0), .unset]) rfl k) ?_
    refine own_st (fr' := (mkF m 277 #[.val (.int p0), .val (.int p1), .val (.int p2), .val (.int p3), .val (.int p4), .val (.int p5), .val (.int q), .val (.int c0), .val (.int c1), .val (.int c2), .val (.int c3), .val (.int c4), .val (.ref x1), .val (.ref x2), .val (.int z215_0), .val (.int z218_0), .val (.int z221_0), .val (.int z224_0), .val (.int z227_0), .val (.int z234_0), .val (.int z241_0), .unset] [(.int z241_0)])) (fun t k => XS.iload X227.here hx rfl (hb hby at_275) rfl  k) ?_
    refine own_st (fr' := (mkF m 279 #[.val (.int p0), .val (.int p1), .val (.int p2), .val (.int p3), .val (.int p4), .val (.int p5), .val (.int q), .val (.int c0), .val (.int c1), .val (.int c2), .val (.int c3), .val (.int c4), .val (.ref x1), .val (.ref x2), .val (.int z215_0), .val (.int z218_0), .val (.int z221_0), .val (.int z224_0), .val (.int z227_0), .val (.int z234_0), .val (.int z241_0), .unset] [(.int z234_0), (.int z241_0)])) (fun t k => XS.iload X227.here hx rfl (hb hby at_277) rfl  k) ?_
    refine own_st (fr' := (mkF m 280 #[.val (.int p0), .val (.int p1), .val (.int p2), .val (.int p3), .val (.int p4), .val (.int p5), .val (.int q), .val (.int c0), .val (.int c1), .val (.int c2), .val (.int c3), .val (.int c4), .val (.ref x1), .val (.ref x2), .val (.int z215_0), .val (.int z218_0), .val (.int z221_0), .val (.int z224_0), .val (.int z227_0), .val (.int z234_0), .val (.int z241_0), .unset] [(.int (z241_0 - z234_0))])) (fun t k => XS.isub X227.here hx rfl (hb hby at_279) rfl k) ?_
    refine own_st (fr' := (mkF m 281 #[.val (.int p0), .val (.int p1), .val (.int p2), .val (.int p3), .val (.int p4), .val (.int p5), .val (.int q), .val (.int c0), .val (.int c1), .val (.int c2), .val (.int c3), .val (.int c4), .val (.ref x1), .val (.ref x2), .val (.int z215_0), .val (.int z218_0), .val (.int z221_0), .val (.int z224_0), .val (.int z227_0), .val (.int z234_0), .val (.int z241_0), .unset] [(.int (1 : Int32)), (.int (z241_0 - z234_0))])) (fun t k => XS.iconst X227.here hx rfl (hb hby at_280) k) ?_
    refine own_st (fr' := (mkF m 282 #[.val (.int p0), .val (.int p1), .val (.int p2), .val (.int p3), .val (.int p4), .val (.int p5), .val (.int q), .val (.int c0), .val (.int c1), .val (.int c2), .val (.int c3), .val (.int c4), .val (.ref x1), .val (.ref x2), .val (.int z215_0), .val (.int z218_0), .val (.int z221_0), .val (.int z224_0), .val (.int z227_0), .val (.int z234_0), .val (.int z241_0), .unset] [(.int ((z241_0 - z234_0) + (1 : Int32)))])) (fun t k => XS.iadd X227.here hx rfl (hb hby at_281) rfl k) ?_
    refine own_st (fr' := (mkF m 284 #[.val (.int p0), .val (.int p1), .val (.int p2), .val (.int p3), .val (.int p4), .val (.int p5), .val (.int q), .val (.int c0), .val (.int c1), .val (.int c2), .val (.int c3), .val (.int c4), .val (.ref x1), .val (.ref x2), .val (.int z215_0), .val (.int z218_0), .val (.int z221_0), .val (.int z224_0), .val (.int z227_0), .val (.int z234_0), .val (.int z241_0), .val (.int ((z241_0 - z234_0) + (1 : Int32)))] [])) (fun t k => XS.istore X227.here hx rfl (hb hby at_282) rfl  (l' := #[.val (.int p0), .val (.int p1), .val (.int p2), .val (.int p3), .val (.int p4), .val (.int p5), .val (.int q), .val (.int c0), .val (.int c1), .val (.int c2), .val (.int c3), .val (.int c4), .val (.ref x1), .val (.ref x2), .val (.int z215_0), .val (.int z218_0), .val (.int z221_0), .val (.int z224_0), .val (.int z227_0), .val (.int z234_0), .val (.int z241_0), .val (.int ((z241_0 - z234_0) + (1 : Int32)))]) rfl k) ?_
    refine own_st (fr' := (mkF m 286 #[.val (.int p0), .val (.int p1), .val (.int p2), .val (.int p3), .val (.int p4), .val (.int p5), .val (.int q), .val (.int c0), .val (.int c1), .val (.int c2), .val (.int c3), .val (.int c4), .val (.ref x1), .val (.ref x2), .val (.int z215_0), .val (.int z218_0), .val (.int z221_0), .val (.int z224_0), .val (.int z227_0), .val (.int z234_0), .val (.int z241_0), .val (.int ((z241_0 - z234_0) + (1 : Int32)))] [(.ref x2)])) (fun t k => XS.aload X227.here hx rfl (hb hby at_284) rfl rfl k) ?_
    rw [← hz241] at hla
    obtain ⟨ht0, -, ht2, -⟩ := hTr
    have s2 := c_isub z241_0 z234_0
    have s3 := rng32 (z241_0 - z234_0)
    have s4 := c_iadd (z241_0 - z234_0) 1
    have s5 := rng32 (z241_0 - z234_0 + 1)
    have k1 : (1 : Int32).toInt = 1 := rfl
    generalize ((z241_0 - z234_0) + (1 : Int32)) = ln at s4 s5 ⊢
    have hln : ln.toInt = il.toInt := by omega
    refine own_callV X227 hx hZ (y := (⟨"java/lang/String", "length", "()I"⟩ : MethodName)) (z := (⟨"java/lang/String", "length", "()I"⟩ : MethodName)) hown (hw _ (List.mem_of_getElem? (i := 59) rfl)) (hw _ (List.mem_of_getElem? (i := 35) rfl)) (notFace_of_selects (args := #[]) (mvT hZ (hw _ (List.mem_of_getElem? (i := 37) rfl)))) (hw _ (List.mem_of_getElem? (i := 37) rfl)) (hw _ (List.mem_of_getElem? (i := 36) rfl)) (hw _ (List.mem_of_getElem? (i := 11) rfl)) (hw _ (List.mem_of_getElem? (i := 38) rfl)) (by decide) (a := x2) (argsL := []) (rest := []) (W := 0) (rm_slen l Z a0 hw [] x2 il _ cz fv T212.heap n0 (Nat.le_trans (Nat.le_trans (Nat.le_trans (Nat.le_trans (Nat.le_trans (Nat.le_trans (Nat.le_trans Z0 K201.1) K203.1) K205.1) K207.1) K209.1) K211.1) K212.1) PS2 (own_sk0 (own_sk0 (own_sk0 (own_sk0 (own_sk0 (own_sk0 (own_sk0 S_cs K201) K203) K205) K207) K209) K211) K212) (own_sk0 (own_sk0 (own_sk0 (own_sk0 (own_sk0 (own_sk0 (own_sk0 S_fm K201) K203) K205) K207) K209) K211) K212) (own_sk0 (own_sk0 (own_sk0 (own_sk0 (own_sk0 (own_sk0 (own_sk0 S_as K201) K203) K205) K207) K209) K211) K212) (own_sk0 (own_sk0 (own_sk0 (own_sk0 (own_sk0 (own_sk0 (own_sk0 S_hi K201) K203) K205) K207) K209) K211) K212) (own_sk0 (own_sk0 (own_sk0 (own_sk0 (own_sk0 (own_sk0 (own_sk0 S_lo K201) K203) K205) K207) K209) K211) K212) hcz hfv) e227 EX2 (by rw [hml]; rfl) (lenOf pd_22 rfl) rfl (Nat.le_of_eq rfl) (hb hby at_286) (by decide) (by decide) (by decide) (by decide) ?_
    intro v242 T242 L242 X242 hQ242
    obtain ⟨rfl, Nq242, eq242⟩ := hQ242
    have N242 := Fr.app N227 Nq242
    refine own_st (fr' := (mkF m 291 #[.val (.int p0), .val (.int p1), .val (.int p2), .val (.int p3), .val (.int p4), .val (.int p5), .val (.int q), .val (.int c0), .val (.int c1), .val (.int c2), .val (.int c3), .val (.int c4), .val (.ref x1), .val (.ref x2), .val (.int z215_0), .val (.int z218_0), .val (.int z221_0), .val (.int z224_0), .val (.int z227_0), .val (.int z234_0), .val (.int z241_0), .val (.int ln)] [(.int ln), (.int il)])) (fun t k => XS.iload X242.here hx rfl (hb hby at_289) rfl  k) ?_
    refine own_st (fr' := (mkF m 296 #[.val (.int p0), .val (.int p1), .val (.int p2), .val (.int p3), .val (.int p4), .val (.int p5), .val (.int q), .val (.int c0), .val (.int c1), .val (.int c2), .val (.int c3), .val (.int c4), .val (.ref x1), .val (.ref x2), .val (.int z215_0), .val (.int z218_0), .val (.int z221_0), .val (.int z224_0), .val (.int z227_0), .val (.int z234_0), .val (.int z241_0), .val (.int ln)] [])) (fun t k => XS.icmpYes X242.here hx rfl (pc0 := 291) (pc' := 296) rfl (hb hby at_291) rfl (own_teq (x := il) (y := ln) (show il.toInt = ln.toInt from by omega)).1 (by decide) (by decide) k) ?_
    rw [show a'.toNat = z234_0.toInt.toNat from by omega] at PS2
    refine own_st (fr' := (mkF m 298 #[.val (.int p0), .val (.int p1), .val (.int p2), .val (.int p3), .val (.int p4), .val (.int p5), .val (.int q), .val (.int c0), .val (.int c1), .val (.int c2), .val (.int c3), .val (.int c4), .val (.ref x1), .val (.ref x2), .val (.int z215_0), .val (.int z218_0), .val (.int z221_0), .val (.int z224_0), .val (.int z227_0), .val (.int z234_0), .val (.int z241_0), .val (.int ln)] [(.ref x2)])) (fun t k => XS.aload X242.here hx rfl (hb hby at_296) rfl rfl k) ?_
    refine own_st (fr' := (mkF m 299 #[.val (.int p0), .val (.int p1), .val (.int p2), .val (.int p3), .val (.int p4), .val (.int p5), .val (.int q), .val (.int c0), .val (.int c1), .val (.int c2), .val (.int c3), .val (.int c4), .val (.ref x1), .val (.ref x2), .val (.int z215_0), .val (.int z218_0), .val (.int z221_0), .val (.int z224_0), .val (.int z227_0), .val (.int z234_0), .val (.int z241_0), .val (.int ln)] [(.int (0 : Int32)), (.ref x2)])) (fun t k => XS.iconst X242.here hx rfl (hb hby at_298) k) ?_
    refine own_st (fr' := (mkF m 301 #[.val (.int p0), .val (.int p1), .val (.int p2), .val (.int p3), .val (.int p4), .val (.int p5), .val (.int q), .val (.int c0), .val (.int c1), .val (.int c2), .val (.int c3), .val (.int c4), .val (.ref x1), .val (.ref x2), .val (.int z215_0), .val (.int z218_0), .val (.int z221_0), .val (.int z224_0), .val (.int z227_0), .val (.int z234_0), .val (.int z241_0), .val (.int ln)] [(.int ln), (.int (0 : Int32)), (.ref x2)])) (fun t k => XS.iload X242.here hx rfl (hb hby at_299) rfl  k) ?_
    refine own_st (fr' := (mkF m 303 #[.val (.int p0), .val (.int p1), .val (.int p2), .val (.int p3), .val (.int p4), .val (.int p5), .val (.int q), .val (.int c0), .val (.int c1), .val (.int c2), .val (.int c3), .val (.int c4), .val (.ref x1), .val (.ref x2), .val (.int z215_0), .val (.int z218_0), .val (.int z221_0), .val (.int z224_0), .val (.int z227_0), .val (.int z234_0), .val (.int z241_0), .val (.int ln)] [(.int z234_0), (.int ln), (.int (0 : Int32)), (.ref x2)])) (fun t k => XS.iload X242.here hx rfl (hb hby at_301) rfl  k) ?_
    refine own_st (fr' := (mkF m 305 #[.val (.int p0), .val (.int p1), .val (.int p2), .val (.int p3), .val (.int p4), .val (.int p5), .val (.int q), .val (.int c0), .val (.int c1), .val (.int c2), .val (.int c3), .val (.int c4), .val (.ref x1), .val (.ref x2), .val (.int z215_0), .val (.int z218_0), .val (.int z221_0), .val (.int z224_0), .val (.int z227_0), .val (.int z234_0), .val (.int z241_0), .val (.int ln)] [(.int c0), (.int z234_0), (.int ln), (.int (0 : Int32)), (.ref x2)])) (fun t k => XS.iload X242.here hx rfl (hb hby at_303) rfl  k) ?_
    refine own_st (fr' := (mkF m 307 #[.val (.int p0), .val (.int p1), .val (.int p2), .val (.int p3), .val (.int p4), .val (.int p5), .val (.int q), .val (.int c0), .val (.int c1), .val (.int c2), .val (.int c3), .val (.int c4), .val (.ref x1), .val (.ref x2), .val (.int z215_0), .val (.int z218_0), .val (.int z221_0), .val (.int z224_0), .val (.int z227_0), .val (.int z234_0), .val (.int z241_0), .val (.int ln)] [(.int c1), (.int c0), (.int z234_0), (.int ln), (.int (0 : Int32)), (.ref x2)])) (fun t k => XS.iload X242.here hx rfl (hb hby at_305) rfl  k) ?_
    refine own_st (fr' := (mkF m 309 #[.val (.int p0), .val (.int p1), .val (.int p2), .val (.int p3), .val (.int p4), .val (.int p5), .val (.int q), .val (.int c0), .val (.int c1), .val (.int c2), .val (.int c3), .val (.int c4), .val (.ref x1), .val (.ref x2), .val (.int z215_0), .val (.int z218_0), .val (.int z221_0), .val (.int z224_0), .val (.int z227_0), .val (.int z234_0), .val (.int z241_0), .val (.int ln)] [(.int c2), (.int c1), (.int c0), (.int z234_0), (.int ln), (.int (0 : Int32)), (.ref x2)])) (fun t k => XS.iload X242.here hx rfl (hb hby at_307) rfl  k) ?_
    refine own_st (fr' := (mkF m 311 #[.val (.int p0), .val (.int p1), .val (.int p2), .val (.int p3), .val (.int p4), .val (.int p5), .val (.int q), .val (.int c0), .val (.int c1), .val (.int c2), .val (.int c3), .val (.int c4), .val (.ref x1), .val (.ref x2), .val (.int z215_0), .val (.int z218_0), .val (.int z221_0), .val (.int z224_0), .val (.int z227_0), .val (.int z234_0), .val (.int z241_0), .val (.int ln)] [(.int c3), (.int c2), (.int c1), (.int c0), (.int z234_0), (.int ln), (.int (0 : Int32)), (.ref x2)])) (fun t k => XS.iload X242.here hx rfl (hb hby at_309) rfl  k) ?_
    refine own_st (fr' := (mkF m 313 #[.val (.int p0), .val (.int p1), .val (.int p2), .val (.int p3), .val (.int p4), .val (.int p5), .val (.int q), .val (.int c0), .val (.int c1), .val (.int c2), .val (.int c3), .val (.int c4), .val (.ref x1), .val (.ref x2), .val (.int z215_0), .val (.int z218_0), .val (.int z221_0), .val (.int z224_0), .val (.int z227_0), .val (.int z234_0), .val (.int z241_0), .val (.int ln)] [(.int c4), (.int c3), (.int c2), (.int c1), (.int c0), (.int z234_0), (.int ln), (.int (0 : Int32)), (.ref x2)])) (fun t k => XS.iload X242.here hx rfl (hb hby at_311) rfl  k) ?_
    refine own_callS X242 hx hZ (y := (⟨"com/example/linkvouch/linkvouch/AttributeValueTrimmedPinLaw", "same", "(Ljava/lang/String;IIICCCCC)Z"⟩ : MethodName)) hown (hw _ (List.mem_of_getElem? (i := 121) rfl)) (hw _ (List.mem_of_getElem? (i := 122) rfl)) (hw _ (List.mem_of_getElem? (i := 3) rfl)) (hw _ (List.mem_of_getElem? (i := 123) rfl)) (by decide) (argsL := [(.ref x2), (.int (0 : Int32)), (.int ln), (.int z234_0), (.int c0), (.int c1), (.int c2), (.int c3), (.int c4)]) (rest := []) (W := 0) (rm_same l Z a0 hw [] x2 il 0 ln z234_0 c0 c1 c2 c3 c4 cz fv T212.heap n0 (Nat.le_trans (Nat.le_trans (Nat.le_trans (Nat.le_trans (Nat.le_trans (Nat.le_trans (Nat.le_trans Z0 K201.1) K203.1) K205.1) K207.1) K209.1) K211.1) K212.1) PS2 hln ⟨by omega, by omega⟩ (by decide) hr0 hr1 hr2 hr3 hr4 (own_sk0 (own_sk0 (own_sk0 (own_sk0 (own_sk0 (own_sk0 (own_sk0 S_cs K201) K203) K205) K207) K209) K211) K212) (own_sk0 (own_sk0 (own_sk0 (own_sk0 (own_sk0 (own_sk0 (own_sk0 S_fm K201) K203) K205) K207) K209) K211) K212) (own_sk0 (own_sk0 (own_sk0 (own_sk0 (own_sk0 (own_sk0 (own_sk0 S_as K201) K203) K205) K207) K209) K211) K212) (own_sk0 (own_sk0 (own_sk0 (own_sk0 (own_sk0 (own_sk0 (own_sk0 S_hi K201) K203) K205) K207) K209) K211) K212) (own_sk0 (own_sk0 (own_sk0 (own_sk0 (own_sk0 (own_sk0 (own_sk0 S_lo K201) K203) K205) K207) K209) K211) K212) hcz hfv) eq242 (by rw [hml]; rfl) (lenOf pd_31 rfl) rfl (Nat.le_of_eq rfl) (hb hby at_313) (by decide) (by decide) (by decide) (by decide) ?_
    intro v243 T243 L243 X243 hQ243
    obtain ⟨rfl, Nq243, eq243⟩ := hQ243
    have N243 := Fr.app N242 Nq243
    refine own_st (fr' := (mkF m 319 #[.val (.int p0), .val (.int p1), .val (.int p2), .val (.int p3), .val (.int p4), .val (.int p5), .val (.int q), .val (.int c0), .val (.int c1), .val (.int c2), .val (.int c3), .val (.int c4), .val (.ref x1), .val (.ref x2), .val (.int z215_0), .val (.int z218_0), .val (.int z221_0), .val (.int z224_0), .val (.int z227_0), .val (.int z234_0), .val (.int z241_0), .val (.int ln)] [])) (fun t k => XS.ifNo X243.here hx rfl (hb hby at_316) rfl ((if0 _ _).trans (own_feq (x := (1 : Int32)) (y := (0 : Int32)) (show ¬ 1 = 0 from by decide)).1) k) ?_
    refine own_st (fr' := (mkF m 321 #[.val (.int p0), .val (.int p1), .val (.int p2), .val (.int p3), .val (.int p4), .val (.int p5), .val (.int q), .val (.int c0), .val (.int c1), .val (.int c2), .val (.int c3), .val (.int c4), .val (.ref x1), .val (.ref x2), .val (.int z215_0), .val (.int z218_0), .val (.int z221_0), .val (.int z224_0), .val (.int z227_0), .val (.int z234_0), .val (.int z241_0), .val (.int ln)] [(.ref x2)])) (fun t k => XS.aload X243.here hx rfl (hb hby at_319) rfl rfl k) ?_
    refine own_st (fr' := (mkF m 322 #[.val (.int p0), .val (.int p1), .val (.int p2), .val (.int p3), .val (.int p4), .val (.int p5), .val (.int q), .val (.int c0), .val (.int c1), .val (.int c2), .val (.int c3), .val (.int c4), .val (.ref x1), .val (.ref x2), .val (.int z215_0), .val (.int z218_0), .val (.int z221_0), .val (.int z224_0), .val (.int z227_0), .val (.int z234_0), .val (.int z241_0), .val (.int ln)] [(.int (1 : Int32)), (.ref x2)])) (fun t k => XS.iconst X243.here hx rfl (hb hby at_321) k) ?_
    refine own_st (fr' := (mkF m 324 #[.val (.int p0), .val (.int p1), .val (.int p2), .val (.int p3), .val (.int p4), .val (.int p5), .val (.int q), .val (.int c0), .val (.int c1), .val (.int c2), .val (.int c3), .val (.int c4), .val (.ref x1), .val (.ref x2), .val (.int z215_0), .val (.int z218_0), .val (.int z221_0), .val (.int z224_0), .val (.int z227_0), .val (.int z234_0), .val (.int z241_0), .val (.int ln)] [(.int ln), (.int (1 : Int32)), (.ref x2)])) (fun t k => XS.iload X243.here hx rfl (hb hby at_322) rfl  k) ?_
    refine own_st (fr' := (mkF m 326 #[.val (.int p0), .val (.int p1), .val (.int p2), .val (.int p3), .val (.int p4), .val (.int p5), .val (.int q), .val (.int c0), .val (.int c1), .val (.int c2), .val (.int c3), .val (.int c4), .val (.ref x1), .val (.ref x2), .val (.int z215_0), .val (.int z218_0), .val (.int z221_0), .val (.int z224_0), .val (.int z227_0), .val (.int z234_0), .val (.int z241_0), .val (.int ln)] [(.int z234_0), (.int ln), (.int (1 : Int32)), (.ref x2)])) (fun t k => XS.iload X243.here hx rfl (hb hby at_324) rfl  k) ?_
    refine own_st (fr' := (mkF m 328 #[.val (.int p0), .val (.int p1), .val (.int p2), .val (.int p3), .val (.int p4), .val (.int p5), .val (.int q), .val (.int c0), .val (.int c1), .val (.int c2), .val (.int c3), .val (.int c4), .val (.ref x1), .val (.ref x2), .val (.int z215_0), .val (.int z218_0), .val (.int z221_0), .val (.int z224_0), .val (.int z227_0), .val (.int z234_0), .val (.int z241_0), .val (.int ln)] [(.int c0), (.int z234_0), (.int ln), (.int (1 : Int32)), (.ref x2)])) (fun t k => XS.iload X243.here hx rfl (hb hby at_326) rfl  k) ?_
    refine own_st (fr' := (mkF m 330 #[.val (.int p0), .val (.int p1), .val (.int p2), .val (.int p3), .val (.int p4), .val (.int p5), .val (.int q), .val (.int c0), .val (.int c1), .val (.int c2), .val (.int c3), .val (.int c4), .val (.ref x1), .val (.ref x2), .val (.int z215_0), .val (.int z218_0), .val (.int z221_0), .val (.int z224_0), .val (.int z227_0), .val (.int z234_0), .val (.int z241_0), .val (.int ln)] [(.int c1), (.int c0), (.int z234_0), (.int ln), (.int (1 : Int32)), (.ref x2)])) (fun t k => XS.iload X243.here hx rfl (hb hby at_328) rfl  k) ?_
    refine own_st (fr' := (mkF m 332 #[.val (.int p0), .val (.int p1), .val (.int p2), .val (.int p3), .val (.int p4), .val (.int p5), .val (.int q), .val (.int c0), .val (.int c1), .val (.int c2), .val (.int c3), .val (.int c4), .val (.ref x1), .val (.ref x2), .val (.int z215_0), .val (.int z218_0), .val (.int z221_0), .val (.int z224_0), .val (.int z227_0), .val (.int z234_0), .val (.int z241_0), .val (.int ln)] [(.int c2), (.int c1), (.int c0), (.int z234_0), (.int ln), (.int (1 : Int32)), (.ref x2)])) (fun t k => XS.iload X243.here hx rfl (hb hby at_330) rfl  k) ?_
    refine own_st (fr' := (mkF m 334 #[.val (.int p0), .val (.int p1), .val (.int p2), .val (.int p3), .val (.int p4), .val (.int p5), .val (.int q), .val (.int c0), .val (.int c1), .val (.int c2), .val (.int c3), .val (.int c4), .val (.ref x1), .val (.ref x2), .val (.int z215_0), .val (.int z218_0), .val (.int z221_0), .val (.int z224_0), .val (.int z227_0), .val (.int z234_0), .val (.int z241_0), .val (.int ln)] [(.int c3), (.int c2), (.int c1), (.int c0), (.int z234_0), (.int ln), (.int (1 : Int32)), (.ref x2)])) (fun t k => XS.iload X243.here hx rfl (hb hby at_332) rfl  k) ?_
    refine own_st (fr' := (mkF m 336 #[.val (.int p0), .val (.int p1), .val (.int p2), .val (.int p3), .val (.int p4), .val (.int p5), .val (.int q), .val (.int c0), .val (.int c1), .val (.int c2), .val (.int c3), .val (.int c4), .val (.ref x1), .val (.ref x2), .val (.int z215_0), .val (.int z218_0), .val (.int z221_0), .val (.int z224_0), .val (.int z227_0), .val (.int z234_0), .val (.int z241_0), .val (.int ln)] [(.int c4), (.int c3), (.int c2), (.int c1), (.int c0), (.int z234_0), (.int ln), (.int (1 : Int32)), (.ref x2)])) (fun t k => XS.iload X243.here hx rfl (hb hby at_334) rfl  k) ?_
    refine own_callS X243 hx hZ (y := (⟨"com/example/linkvouch/linkvouch/AttributeValueTrimmedPinLaw", "same", "(Ljava/lang/String;IIICCCCC)Z"⟩ : MethodName)) hown (hw _ (List.mem_of_getElem? (i := 121) rfl)) (hw _ (List.mem_of_getElem? (i := 122) rfl)) (hw _ (List.mem_of_getElem? (i := 3) rfl)) (hw _ (List.mem_of_getElem? (i := 123) rfl)) (by decide) (argsL := [(.ref x2), (.int (1 : Int32)), (.int ln), (.int z234_0), (.int c0), (.int c1), (.int c2), (.int c3), (.int c4)]) (rest := []) (W := 0) (rm_same l Z a0 hw [] x2 il 1 ln z234_0 c0 c1 c2 c3 c4 cz fv T212.heap n0 (Nat.le_trans (Nat.le_trans (Nat.le_trans (Nat.le_trans (Nat.le_trans (Nat.le_trans (Nat.le_trans Z0 K201.1) K203.1) K205.1) K207.1) K209.1) K211.1) K212.1) PS2 hln ⟨by omega, by omega⟩ (by decide) hr0 hr1 hr2 hr3 hr4 (own_sk0 (own_sk0 (own_sk0 (own_sk0 (own_sk0 (own_sk0 (own_sk0 S_cs K201) K203) K205) K207) K209) K211) K212) (own_sk0 (own_sk0 (own_sk0 (own_sk0 (own_sk0 (own_sk0 (own_sk0 S_fm K201) K203) K205) K207) K209) K211) K212) (own_sk0 (own_sk0 (own_sk0 (own_sk0 (own_sk0 (own_sk0 (own_sk0 S_as K201) K203) K205) K207) K209) K211) K212) (own_sk0 (own_sk0 (own_sk0 (own_sk0 (own_sk0 (own_sk0 (own_sk0 S_hi K201) K203) K205) K207) K209) K211) K212) (own_sk0 (own_sk0 (own_sk0 (own_sk0 (own_sk0 (own_sk0 (own_sk0 S_lo K201) K203) K205) K207) K209) K211) K212) hcz hfv) eq243 (by rw [hml]; rfl) (lenOf pd_31 rfl) rfl (Nat.le_of_eq rfl) (hb hby at_336) (by decide) (by decide) (by decide) (by decide) ?_
    intro v244 T244 L244 X244 hQ244
    obtain ⟨rfl, Nq244, eq244⟩ := hQ244
    have N244 := Fr.app N243 Nq244
    refine own_st (fr' := (mkF m 342 #[.val (.int p0), .val (.int p1), .val (.int p2), .val (.int p3), .val (.int p4), .val (.int p5), .val (.int q), .val (.int c0), .val (.int c1), .val (.int c2), .val (.int c3), .val (.int c4), .val (.ref x1), .val (.ref x2), .val (.int z215_0), .val (.int z218_0), .val (.int z221_0), .val (.int z224_0), .val (.int z227_0), .val (.int z234_0), .val (.int z241_0), .val (.int ln)] [])) (fun t k => XS.ifNo X244.here hx rfl (hb hby at_339) rfl ((if0 _ _).trans (own_feq (x := (1 : Int32)) (y := (0 : Int32)) (show ¬ 1 = 0 from by decide)).1) k) ?_
    refine own_st (fr' := (mkF m 344 #[.val (.int p0), .val (.int p1), .val (.int p2), .val (.int p3), .val (.int p4), .val (.int p5), .val (.int q), .val (.int c0), .val (.int c1), .val (.int c2), .val (.int c3), .val (.int c4), .val (.ref x1), .val (.ref x2), .val (.int z215_0), .val (.int z218_0), .val (.int z221_0), .val (.int z224_0), .val (.int z227_0), .val (.int z234_0), .val (.int z241_0), .val (.int ln)] [(.ref x2)])) (fun t k => XS.aload X244.here hx rfl (hb hby at_342) rfl rfl k) ?_
    refine own_st (fr' := (mkF m 345 #[.val (.int p0), .val (.int p1), .val (.int p2), .val (.int p3), .val (.int p4), .val (.int p5), .val (.int q), .val (.int c0), .val (.int c1), .val (.int c2), .val (.int c3), .val (.int c4), .val (.ref x1), .val (.ref x2), .val (.int z215_0), .val (.int z218_0), .val (.int z221_0), .val (.int z224_0), .val (.int z227_0), .val (.int z234_0), .val (.int z241_0), .val (.int ln)] [(.int (2 : Int32)), (.ref x2)])) (fun t k => XS.iconst X244.here hx rfl (hb hby at_344) k) ?_
    refine own_st (fr' := (mkF m 347 #[.val (.int p0), .val (.int p1), .val (.int p2), .val (.int p3), .val (.int p4), .val (.int p5), .val (.int q), .val (.int c0), .val (.int c1), .val (.int c2), .val (.int c3), .val (.int c4), .val (.ref x1), .val (.ref x2), .val (.int z215_0), .val (.int z218_0), .val (.int z221_0), .val (.int z224_0), .val (.int z227_0), .val (.int z234_0), .val (.int z241_0), .val (.int ln)] [(.int ln), (.int (2 : Int32)), (.ref x2)])) (fun t k => XS.iload X244.here hx rfl (hb hby at_345) rfl  k) ?_
    refine own_st (fr' := (mkF m 349 #[.val (.int p0), .val (.int p1), .val (.int p2), .val (.int p3), .val (.int p4), .val (.int p5), .val (.int q), .val (.int c0), .val (.int c1), .val (.int c2), .val (.int c3), .val (.int c4), .val (.ref x1), .val (.ref x2), .val (.int z215_0), .val (.int z218_0), .val (.int z221_0), .val (.int z224_0), .val (.int z227_0), .val (.int z234_0), .val (.int z241_0), .val (.int ln)] [(.int z234_0), (.int ln), (.int (2 : Int32)), (.ref x2)])) (fun t k => XS.iload X244.here hx rfl (hb hby at_347) rfl  k) ?_
    refine own_st (fr' := (mkF m 351 #[.val (.int p0), .val (.int p1), .val (.int p2), .val (.int p3), .val (.int p4), .val (.int p5), .val (.int q), .val (.int c0), .val (.int c1), .val (.int c2), .val (.int c3), .val (.int c4), .val (.ref x1), .val (.ref x2), .val (.int z215_0), .val (.int z218_0), .val (.int z221_0), .val (.int z224_0), .val (.int z227_0), .val (.int z234_0), .val (.int z241_0), .val (.int ln)] [(.int c0), (.int z234_0), (.int ln), (.int (2 : Int32)), (.ref x2)])) (fun t k => XS.iload X244.here hx rfl (hb hby at_349) rfl  k) ?_
    refine own_st (fr' := (mkF m 353 #[.val (.int p0), .val (.int p1), .val (.int p2), .val (.int p3), .val (.int p4), .val (.int p5), .val (.int q), .val (.int c0), .val (.int c1), .val (.int c2), .val (.int c3), .val (.int c4), .val (.ref x1), .val (.ref x2), .val (.int z215_0), .val (.int z218_0), .val (.int z221_0), .val (.int z224_0), .val (.int z227_0), .val (.int z234_0), .val (.int z241_0), .val (.int ln)] [(.int c1), (.int c0), (.int z234_0), (.int ln), (.int (2 : Int32)), (.ref x2)])) (fun t k => XS.iload X244.here hx rfl (hb hby at_351) rfl  k) ?_
    refine own_st (fr' := (mkF m 355 #[.val (.int p0), .val (.int p1), .val (.int p2), .val (.int p3), .val (.int p4), .val (.int p5), .val (.int q), .val (.int c0), .val (.int c1), .val (.int c2), .val (.int c3), .val (.int c4), .val (.ref x1), .val (.ref x2), .val (.int z215_0), .val (.int z218_0), .val (.int z221_0), .val (.int z224_0), .val (.int z227_0), .val (.int z234_0), .val (.int z241_0), .val (.int ln)] [(.int c2), (.int c1), (.int c0), (.int z234_0), (.int ln), (.int (2 : Int32)), (.ref x2)])) (fun t k => XS.iload X244.here hx rfl (hb hby at_353) rfl  k) ?_
    refine own_st (fr' := (mkF m 357 #[.val (.int p0), .val (.int p1), .val (.int p2), .val (.int p3), .val (.int p4), .val (.int p5), .val (.int q), .val (.int c0), .val (.int c1), .val (.int c2), .val (.int c3), .val (.int c4), .val (.ref x1), .val (.ref x2), .val (.int z215_0), .val (.int z218_0), .val (.int z221_0), .val (.int z224_0), .val (.int z227_0), .val (.int z234_0), .val (.int z241_0), .val (.int ln)] [(.int c3), (.int c2), (.int c1), (.int c0), (.int z234_0), (.int ln), (.int (2 : Int32)), (.ref x2)])) (fun t k => XS.iload X244.here hx rfl (hb hby at_355) rfl  k) ?_
    refine own_st (fr' := (mkF m 359 #[.val (.int p0), .val (.int p1), .val (.int p2), .val (.int p3), .val (.int p4), .val (.int p5), .val (.int q), .val (.int c0), .val (.int c1), .val (.int c2), .val (.int c3), .val (.int c4), .val (.ref x1), .val (.ref x2), .val (.int z215_0), .val (.int z218_0), .val (.int z221_0), .val (.int z224_0), .val (.int z227_0), .val (.int z234_0), .val (.int z241_0), .val (.int ln)] [(.int c4), (.int c3), (.int c2), (.int c1), (.int c0), (.int z234_0), (.int ln), (.int (2 : Int32)), (.ref x2)])) (fun t k => XS.iload X244.here hx rfl (hb hby at_357) rfl  k) ?_
    refine own_callS X244 hx hZ (y := (⟨"com/example/linkvouch/linkvouch/AttributeValueTrimmedPinLaw", "same", "(Ljava/lang/String;IIICCCCC)Z"⟩ : MethodName)) hown (hw _ (List.mem_of_getElem? (i := 121) rfl)) (hw _ (List.mem_of_getElem? (i := 122) rfl)) (hw _ (List.mem_of_getElem? (i := 3) rfl)) (hw _ (List.mem_of_getElem? (i := 123) rfl)) (by decide) (argsL := [(.ref x2), (.int (2 : Int32)), (.int ln), (.int z234_0), (.int c0), (.int c1), (.int c2), (.int c3), (.int c4)]) (rest := []) (W := 0) (rm_same l Z a0 hw [] x2 il 2 ln z234_0 c0 c1 c2 c3 c4 cz fv T212.heap n0 (Nat.le_trans (Nat.le_trans (Nat.le_trans (Nat.le_trans (Nat.le_trans (Nat.le_trans (Nat.le_trans Z0 K201.1) K203.1) K205.1) K207.1) K209.1) K211.1) K212.1) PS2 hln ⟨by omega, by omega⟩ (by decide) hr0 hr1 hr2 hr3 hr4 (own_sk0 (own_sk0 (own_sk0 (own_sk0 (own_sk0 (own_sk0 (own_sk0 S_cs K201) K203) K205) K207) K209) K211) K212) (own_sk0 (own_sk0 (own_sk0 (own_sk0 (own_sk0 (own_sk0 (own_sk0 S_fm K201) K203) K205) K207) K209) K211) K212) (own_sk0 (own_sk0 (own_sk0 (own_sk0 (own_sk0 (own_sk0 (own_sk0 S_as K201) K203) K205) K207) K209) K211) K212) (own_sk0 (own_sk0 (own_sk0 (own_sk0 (own_sk0 (own_sk0 (own_sk0 S_hi K201) K203) K205) K207) K209) K211) K212) (own_sk0 (own_sk0 (own_sk0 (own_sk0 (own_sk0 (own_sk0 (own_sk0 S_lo K201) K203) K205) K207) K209) K211) K212) hcz hfv) eq244 (by rw [hml]; rfl) (lenOf pd_31 rfl) rfl (Nat.le_of_eq rfl) (hb hby at_359) (by decide) (by decide) (by decide) (by decide) ?_
    intro v245 T245 L245 X245 hQ245
    obtain ⟨rfl, Nq245, eq245⟩ := hQ245
    have N245 := Fr.app N244 Nq245
    refine own_st (fr' := (mkF m 365 #[.val (.int p0), .val (.int p1), .val (.int p2), .val (.int p3), .val (.int p4), .val (.int p5), .val (.int q), .val (.int c0), .val (.int c1), .val (.int c2), .val (.int c3), .val (.int c4), .val (.ref x1), .val (.ref x2), .val (.int z215_0), .val (.int z218_0), .val (.int z221_0), .val (.int z224_0), .val (.int z227_0), .val (.int z234_0), .val (.int z241_0), .val (.int ln)] [])) (fun t k => XS.ifNo X245.here hx rfl (hb hby at_362) rfl ((if0 _ _).trans (own_feq (x := (1 : Int32)) (y := (0 : Int32)) (show ¬ 1 = 0 from by decide)).1) k) ?_
    refine own_st (fr' := (mkF m 367 #[.val (.int p0), .val (.int p1), .val (.int p2), .val (.int p3), .val (.int p4), .val (.int p5), .val (.int q), .val (.int c0), .val (.int c1), .val (.int c2), .val (.int c3), .val (.int c4), .val (.ref x1), .val (.ref x2), .val (.int z215_0), .val (.int z218_0), .val (.int z221_0), .val (.int z224_0), .val (.int z227_0), .val (.int z234_0), .val (.int z241_0), .val (.int ln)] [(.ref x2)])) (fun t k => XS.aload X245.here hx rfl (hb hby at_365) rfl rfl k) ?_
    refine own_st (fr' := (mkF m 368 #[.val (.int p0), .val (.int p1), .val (.int p2), .val (.int p3), .val (.int p4), .val (.int p5), .val (.int q), .val (.int c0), .val (.int c1), .val (.int c2), .val (.int c3), .val (.int c4), .val (.ref x1), .val (.ref x2), .val (.int z215_0), .val (.int z218_0), .val (.int z221_0), .val (.int z224_0), .val (.int z227_0), .val (.int z234_0), .val (.int z241_0), .val (.int ln)] [(.int (3 : Int32)), (.ref x2)])) (fun t k => XS.iconst X245.here hx rfl (hb hby at_367) k) ?_
    refine own_st (fr' := (mkF m 370 #[.val (.int p0), .val (.int p1), .val (.int p2), .val (.int p3), .val (.int p4), .val (.int p5), .val (.int q), .val (.int c0), .val (.int c1), .val (.int c2), .val (.int c3), .val (.int c4), .val (.ref x1), .val (.ref x2), .val (.int z215_0), .val (.int z218_0), .val (.int z221_0), .val (.int z224_0), .val (.int z227_0), .val (.int z234_0), .val (.int z241_0), .val (.int ln)] [(.int ln), (.int (3 : Int32)), (.ref x2)])) (fun t k => XS.iload X245.here hx rfl (hb hby at_368) rfl  k) ?_
    refine own_st (fr' := (mkF m 372 #[.val (.int p0), .val (.int p1), .val (.int p2), .val (.int p3), .val (.int p4), .val (.int p5), .val (.int q), .val (.int c0), .val (.int c1), .val (.int c2), .val (.int c3), .val (.int c4), .val (.ref x1), .val (.ref x2), .val (.int z215_0), .val (.int z218_0), .val (.int z221_0), .val (.int z224_0), .val (.int z227_0), .val (.int z234_0), .val (.int z241_0), .val (.int ln)] [(.int z234_0), (.int ln), (.int (3 : Int32)), (.ref x2)])) (fun t k => XS.iload X245.here hx rfl (hb hby at_370) rfl  k) ?_
    refine own_st (fr' := (mkF m 374 #[.val (.int p0), .val (.int p1), .val (.int p2), .val (.int p3), .val (.int p4), .val (.int p5), .val (.int q), .val (.int c0), .val (.int c1), .val (.int c2), .val (.int c3), .val (.int c4), .val (.ref x1), .val (.ref x2), .val (.int z215_0), .val (.int z218_0), .val (.int z221_0), .val (.int z224_0), .val (.int z227_0), .val (.int z234_0), .val (.int z241_0), .val (.int ln)] [(.int c0), (.int z234_0), (.int ln), (.int (3 : Int32)), (.ref x2)])) (fun t k => XS.iload X245.here hx rfl (hb hby at_372) rfl  k) ?_
    refine own_st (fr' := (mkF m 376 #[.val (.int p0), .val (.int p1), .val (.int p2), .val (.int p3), .val (.int p4), .val (.int p5), .val (.int q), .val (.int c0), .val (.int c1), .val (.int c2), .val (.int c3), .val (.int c4), .val (.ref x1), .val (.ref x2), .val (.int z215_0), .val (.int z218_0), .val (.int z221_0), .val (.int z224_0), .val (.int z227_0), .val (.int z234_0), .val (.int z241_0), .val (.int ln)] [(.int c1), (.int c0), (.int z234_0), (.int ln), (.int (3 : Int32)), (.ref x2)])) (fun t k => XS.iload X245.here hx rfl (hb hby at_374) rfl  k) ?_
    refine own_st (fr' := (mkF m 378 #[.val (.int p0), .val (.int p1), .val (.int p2), .val (.int p3), .val (.int p4), .val (.int p5), .val (.int q), .val (.int c0), .val (.int c1), .val (.int c2), .val (.int c3), .val (.int c4), .val (.ref x1), .val (.ref x2), .val (.int z215_0), .val (.int z218_0), .val (.int z221_0), .val (.int z224_0), .val (.int z227_0), .val (.int z234_0), .val (.int z241_0), .val (.int ln)] [(.int c2), (.int c1), (.int c0), (.int z234_0), (.int ln), (.int (3 : Int32)), (.ref x2)])) (fun t k => XS.iload X245.here hx rfl (hb hby at_376) rfl  k) ?_
    refine own_st (fr' := (mkF m 380 #[.val (.int p0), .val (.int p1), .val (.int p2), .val (.int p3), .val (.int p4), .val (.int p5), .val (.int q), .val (.int c0), .val (.int c1), .val (.int c2), .val (.int c3), .val (.int c4), .val (.ref x1), .val (.ref x2), .val (.int z215_0), .val (.int z218_0), .val (.int z221_0), .val (.int z224_0), .val (.int z227_0), .val (.int z234_0), .val (.int z241_0), .val (.int ln)] [(.int c3), (.int c2), (.int c1), (.int c0), (.int z234_0), (.int ln), (.int (3 : Int32)), (.ref x2)])) (fun t k => XS.iload X245.here hx rfl (hb hby at_378) rfl  k) ?_
    refine own_st (fr' := (mkF m 382 #[.val (.int p0), .val (.int p1), .val (.int p2), .val (.int p3), .val (.int p4), .val (.int p5), .val (.int q), .val (.int c0), .val (.int c1), .val (.int c2), .val (.int c3), .val (.int c4), .val (.ref x1), .val (.ref x2), .val (.int z215_0), .val (.int z218_0), .val (.int z221_0), .val (.int z224_0), .val (.int z227_0), .val (.int z234_0), .val (.int z241_0), .val (.int ln)] [(.int c4), (.int c3), (.int c2), (.int c1), (.int c0), (.int z234_0), (.int ln), (.int (3 : Int32)), (.ref x2)])) (fun t k => XS.iload X245.here hx rfl (hb hby at_380) rfl  k) ?_
    refine own_callS X245 hx hZ (y := (⟨"com/example/linkvouch/linkvouch/AttributeValueTrimmedPinLaw", "same", "(Ljava/lang/String;IIICCCCC)Z"⟩ : MethodName)) hown (hw _ (List.mem_of_getElem? (i := 121) rfl)) (hw _ (List.mem_of_getElem? (i := 122) rfl)) (hw _ (List.mem_of_getElem? (i := 3) rfl)) (hw _ (List.mem_of_getElem? (i := 123) rfl)) (by decide) (argsL := [(.ref x2), (.int (3 : Int32)), (.int ln), (.int z234_0), (.int c0), (.int c1), (.int c2), (.int c3), (.int c4)]) (rest := []) (W := 0) (rm_same l Z a0 hw [] x2 il 3 ln z234_0 c0 c1 c2 c3 c4 cz fv T212.heap n0 (Nat.le_trans (Nat.le_trans (Nat.le_trans (Nat.le_trans (Nat.le_trans (Nat.le_trans (Nat.le_trans Z0 K201.1) K203.1) K205.1) K207.1) K209.1) K211.1) K212.1) PS2 hln ⟨by omega, by omega⟩ (by decide) hr0 hr1 hr2 hr3 hr4 (own_sk0 (own_sk0 (own_sk0 (own_sk0 (own_sk0 (own_sk0 (own_sk0 S_cs K201) K203) K205) K207) K209) K211) K212) (own_sk0 (own_sk0 (own_sk0 (own_sk0 (own_sk0 (own_sk0 (own_sk0 S_fm K201) K203) K205) K207) K209) K211) K212) (own_sk0 (own_sk0 (own_sk0 (own_sk0 (own_sk0 (own_sk0 (own_sk0 S_as K201) K203) K205) K207) K209) K211) K212) (own_sk0 (own_sk0 (own_sk0 (own_sk0 (own_sk0 (own_sk0 (own_sk0 S_hi K201) K203) K205) K207) K209) K211) K212) (own_sk0 (own_sk0 (own_sk0 (own_sk0 (own_sk0 (own_sk0 (own_sk0 S_lo K201) K203) K205) K207) K209) K211) K212) hcz hfv) eq245 (by rw [hml]; rfl) (lenOf pd_31 rfl) rfl (Nat.le_of_eq rfl) (hb hby at_382) (by decide) (by decide) (by decide) (by decide) ?_
    intro v246 T246 L246 X246 hQ246
    obtain ⟨rfl, Nq246, eq246⟩ := hQ246
    have N246 := Fr.app N245 Nq246
    refine own_st (fr' := (mkF m 388 #[.val (.int p0), .val (.int p1), .val (.int p2), .val (.int p3), .val (.int p4), .val (.int p5), .val (.int q), .val (.int c0), .val (.int c1), .val (.int c2), .val (.int c3), .val (.int c4), .val (.ref x1), .val (.ref x2), .val (.int z215_0), .val (.int z218_0), .val (.int z221_0), .val (.int z224_0), .val (.int z227_0), .val (.int z234_0), .val (.int z241_0), .val (.int ln)] [])) (fun t k => XS.ifNo X246.here hx rfl (hb hby at_385) rfl ((if0 _ _).trans (own_feq (x := (1 : Int32)) (y := (0 : Int32)) (show ¬ 1 = 0 from by decide)).1) k) ?_
    refine own_st (fr' := (mkF m 390 #[.val (.int p0), .val (.int p1), .val (.int p2), .val (.int p3), .val (.int p4), .val (.int p5), .val (.int q), .val (.int c0), .val (.int c1), .val (.int c2), .val (.int c3), .val (.int c4), .val (.ref x1), .val (.ref x2), .val (.int z215_0), .val (.int z218_0), .val (.int z221_0), .val (.int z224_0), .val (.int z227_0), .val (.int z234_0), .val (.int z241_0), .val (.int ln)] [(.ref x2)])) (fun t k => XS.aload X246.here hx rfl (hb hby at_388) rfl rfl k) ?_
    refine own_st (fr' := (mkF m 391 #[.val (.int p0), .val (.int p1), .val (.int p2), .val (.int p3), .val (.int p4), .val (.int p5), .val (.int q), .val (.int c0), .val (.int c1), .val (.int c2), .val (.int c3), .val (.int c4), .val (.ref x1), .val (.ref x2), .val (.int z215_0), .val (.int z218_0), .val (.int z221_0), .val (.int z224_0), .val (.int z227_0), .val (.int z234_0), .val (.int z241_0), .val (.int ln)] [(.int (4 : Int32)), (.ref x2)])) (fun t k => XS.iconst X246.here hx rfl (hb hby at_390) k) ?_
    refine own_st (fr' := (mkF m 393 #[.val (.int p0), .val (.int p1), .val (.int p2), .val (.int p3), .val (.int p4), .val (.int p5), .val (.int q), .val (.int c0), .val (.int c1), .val (.int c2), .val (.int c3), .val (.int c4), .val (.ref x1), .val (.ref x2), .val (.int z215_0), .val (.int z218_0), .val (.int z221_0), .val (.int z224_0), .val (.int z227_0), .val (.int z234_0), .val (.int z241_0), .val (.int ln)] [(.int ln), (.int (4 : Int32)), (.ref x2)])) (fun t k => XS.iload X246.here hx rfl (hb hby at_391) rfl  k) ?_
    refine own_st (fr' := (mkF m 395 #[.val (.int p0), .val (.int p1), .val (.int p2), .val (.int p3), .val (.int p4), .val (.int p5), .val (.int q), .val (.int c0), .val (.int c1), .val (.int c2), .val (.int c3), .val (.int c4), .val (.ref x1), .val (.ref x2), .val (.int z215_0), .val (.int z218_0), .val (.int z221_0), .val (.int z224_0), .val (.int z227_0), .val (.int z234_0), .val (.int z241_0), .val (.int ln)] [(.int z234_0), (.int ln), (.int (4 : Int32)), (.ref x2)])) (fun t k => XS.iload X246.here hx rfl (hb hby at_393) rfl  k) ?_
    refine own_st (fr' := (mkF m 397 #[.val (.int p0), .val (.int p1), .val (.int p2), .val (.int p3), .val (.int p4), .val (.int p5), .val (.int q), .val (.int c0), .val (.int c1), .val (.int c2), .val (.int c3), .val (.int c4), .val (.ref x1), .val (.ref x2), .val (.int z215_0), .val (.int z218_0), .val (.int z221_0), .val (.int z224_0), .val (.int z227_0), .val (.int z234_0), .val (.int z241_0), .val (.int ln)] [(.int c0), (.int z234_0), (.int ln), (.int (4 : Int32)), (.ref x2)])) (fun t k => XS.iload X246.here hx rfl (hb hby at_395) rfl  k) ?_
    refine own_st (fr' := (mkF m 399 #[.val (.int p0), .val (.int p1), .val (.int p2), .val (.int p3), .val (.int p4), .val (.int p5), .val (.int q), .val (.int c0), .val (.int c1), .val (.int c2), .val (.int c3), .val (.int c4), .val (.ref x1), .val (.ref x2), .val (.int z215_0), .val (.int z218_0), .val (.int z221_0), .val (.int z224_0), .val (.int z227_0), .val (.int z234_0), .val (.int z241_0), .val (.int ln)] [(.int c1), (.int c0), (.int z234_0), (.int ln), (.int (4 : Int32)), (.ref x2)])) (fun t k => XS.iload X246.here hx rfl (hb hby at_397) rfl  k) ?_
    refine own_st (fr' := (mkF m 401 #[.val (.int p0), .val (.int p1), .val (.int p2), .val (.int p3), .val (.int p4), .val (.int p5), .val (.int q), .val (.int c0), .val (.int c1), .val (.int c2), .val (.int c3), .val (.int c4), .val (.ref x1), .val (.ref x2), .val (.int z215_0), .val (.int z218_0), .val (.int z221_0), .val (.int z224_0), .val (.int z227_0), .val (.int z234_0), .val (.int z241_0), .val (.int ln)] [(.int c2), (.int c1), (.int c0), (.int z234_0), (.int ln), (.int (4 : Int32)), (.ref x2)])) (fun t k => XS.iload X246.here hx rfl (hb hby at_399) rfl  k) ?_
    refine own_st (fr' := (mkF m 403 #[.val (.int p0), .val (.int p1), .val (.int p2), .val (.int p3), .val (.int p4), .val (.int p5), .val (.int q), .val (.int c0), .val (.int c1), .val (.int c2), .val (.int c3), .val (.int c4), .val (.ref x1), .val (.ref x2), .val (.int z215_0), .val (.int z218_0), .val (.int z221_0), .val (.int z224_0), .val (.int z227_0), .val (.int z234_0), .val (.int z241_0), .val (.int ln)] [(.int c3), (.int c2), (.int c1), (.int c0), (.int z234_0), (.int ln), (.int (4 : Int32)), (.ref x2)])) (fun t k => XS.iload X246.here hx rfl (hb hby at_401) rfl  k) ?_
    refine own_st (fr' := (mkF m 405 #[.val (.int p0), .val (.int p1), .val (.int p2), .val (.int p3), .val (.int p4), .val (.int p5), .val (.int q), .val (.int c0), .val (.int c1), .val (.int c2), .val (.int c3), .val (.int c4), .val (.ref x1), .val (.ref x2), .val (.int z215_0), .val (.int z218_0), .val (.int z221_0), .val (.int z224_0), .val (.int z227_0), .val (.int z234_0), .val (.int z241_0), .val (.int ln)] [(.int c4), (.int c3), (.int c2), (.int c1), (.int c0), (.int z234_0), (.int ln), (.int (4 : Int32)), (.ref x2)])) (fun t k => XS.iload X246.here hx rfl (hb hby at_403) rfl  k) ?_
    refine own_callS X246 hx hZ (y := (⟨"com/example/linkvouch/linkvouch/AttributeValueTrimmedPinLaw", "same", "(Ljava/lang/String;IIICCCCC)Z"⟩ : MethodName)) hown (hw _ (List.mem_of_getElem? (i := 121) rfl)) (hw _ (List.mem_of_getElem? (i := 122) rfl)) (hw _ (List.mem_of_getElem? (i := 3) rfl)) (hw _ (List.mem_of_getElem? (i := 123) rfl)) (by decide) (argsL := [(.ref x2), (.int (4 : Int32)), (.int ln), (.int z234_0), (.int c0), (.int c1), (.int c2), (.int c3), (.int c4)]) (rest := []) (W := 0) (rm_same l Z a0 hw [] x2 il 4 ln z234_0 c0 c1 c2 c3 c4 cz fv T212.heap n0 (Nat.le_trans (Nat.le_trans (Nat.le_trans (Nat.le_trans (Nat.le_trans (Nat.le_trans (Nat.le_trans Z0 K201.1) K203.1) K205.1) K207.1) K209.1) K211.1) K212.1) PS2 hln ⟨by omega, by omega⟩ (by decide) hr0 hr1 hr2 hr3 hr4 (own_sk0 (own_sk0 (own_sk0 (own_sk0 (own_sk0 (own_sk0 (own_sk0 S_cs K201) K203) K205) K207) K209) K211) K212) (own_sk0 (own_sk0 (own_sk0 (own_sk0 (own_sk0 (own_sk0 (own_sk0 S_fm K201) K203) K205) K207) K209) K211) K212) (own_sk0 (own_sk0 (own_sk0 (own_sk0 (own_sk0 (own_sk0 (own_sk0 S_as K201) K203) K205) K207) K209) K211) K212) (own_sk0 (own_sk0 (own_sk0 (own_sk0 (own_sk0 (own_sk0 (own_sk0 S_hi K201) K203) K205) K207) K209) K211) K212) (own_sk0 (own_sk0 (own_sk0 (own_sk0 (own_sk0 (own_sk0 (own_sk0 S_lo K201) K203) K205) K207) K209) K211) K212) hcz hfv) eq246 (by rw [hml]; rfl) (lenOf pd_31 rfl) rfl (Nat.le_of_eq rfl) (hb hby at_405) (by decide) (by decide) (by decide) (by decide) ?_
    intro v247 T247 L247 X247 hQ247
    obtain ⟨rfl, Nq247, eq247⟩ := hQ247
    have N247 := Fr.app N246 Nq247
    refine own_st (fr' := (mkF m 411 #[.val (.int p0), .val (.int p1), .val (.int p2), .val (.int p3), .val (.int p4), .val (.int p5), .val (.int q), .val (.int c0), .val (.int c1), .val (.int c2), .val (.int c3), .val (.int c4), .val (.ref x1), .val (.ref x2), .val (.int z215_0), .val (.int z218_0), .val (.int z221_0), .val (.int z224_0), .val (.int z227_0), .val (.int z234_0), .val (.int z241_0), .val (.int ln)] [])) (fun t k => XS.ifNo X247.here hx rfl (hb hby at_408) rfl ((if0 _ _).trans (own_feq (x := (1 : Int32)) (y := (0 : Int32)) (show ¬ 1 = 0 from by decide)).1) k) ?_
    refine own_st (fr' := (mkF m 412 #[.val (.int p0), .val (.int p1), .val (.int p2), .val (.int p3), .val (.int p4), .val (.int p5), .val (.int q), .val (.int c0), .val (.int c1), .val (.int c2), .val (.int c3), .val (.int c4), .val (.ref x1), .val (.ref x2), .val (.int z215_0), .val (.int z218_0), .val (.int z221_0), .val (.int z224_0), .val (.int z227_0), .val (.int z234_0), .val (.int z241_0), .val (.int ln)] [(.int (1 : Int32))])) (fun t k => XS.iconst X247.here hx rfl (hb hby at_411) k) ?_
    refine own_st (fr' := (mkF m 416 #[.val (.int p0), .val (.int p1), .val (.int p2), .val (.int p3), .val (.int p4), .val (.int p5), .val (.int q), .val (.int c0), .val (.int c1), .val (.int c2), .val (.int c3), .val (.int c4), .val (.ref x1), .val (.ref x2), .val (.int z215_0), .val (.int z218_0), .val (.int z221_0), .val (.int z224_0), .val (.int z227_0), .val (.int z234_0), .val (.int z241_0), .val (.int ln)] [(.int (1 : Int32))])) (fun t k => XS.goto X247.here hx rfl (pc0 := 412) (pc' := 416) rfl (hb hby at_412) (by decide) (by decide) k) ?_
    exact own_retC X247 hx hlk hZ hS (Nat.le_refl _) (own_ew hw) r212 eq247 hret (rfl) (Or.inl ⟨rfl, by simp [ret], _, rfl⟩) (hb hby at_416) (by decide) (by decide) (⟨rfl, N247⟩)
set_option maxRecDepth 65536 in
set_option maxHeartbeats 40000000 in
theorem comes_1 {Post : Tables → Env → Array Value → State → Outcome → State → Prop} (hpost : ∀ tb e args s v u, (limb_1_1.after args s (.returned v) u = true ∧ limb_1_2.after args s (.returned v) u = true ∧ True) → ReturnedEndW s (.returned v) u (Jvm.fieldLocs frame_1_writes args s ++ Jvm.arrayLocs frame_1_arrays args s ++ Jvm.staticLocs frame_1_statics s) 40 2368 → Post tb e args s (.returned v) u) :
    ArmFor flags0 classFile x code maxLocals ret World_1 tables_1 room_1 Calls_1 rest_1 Pre_1 Post := by
  intro l hfl _ _ p e ha hc hk s m args below hf hA hF happ hP
  obtain ⟨hcalls, hrest, hpre⟩ := hP
  obtain ⟨-, -, -, hnamed, -, -, -, hat⟩ := (Spec.applies_iff hf).mp happ
  obtain ⟨hg, hn⟩ := and_e (Cond.before_iff.mp (show (Jvm.Cond.and given_1 narrow_1).before args s = true from hpre))
  obtain ⟨hcount, ha0⟩ := and_e hg
  obtain ⟨hi0, ha1⟩ := and_e ha0
  obtain ⟨hi1, ha2⟩ := and_e ha1
  obtain ⟨hi2, ha3⟩ := and_e ha2
  obtain ⟨hi3, ha4⟩ := and_e ha3
  obtain ⟨hi4, ha5⟩ := and_e ha4
  have hi5 := ha5
  obtain ⟨w0, w1, w2, w3, w4, w5, rfl⟩ : ∃ w0 w1 w2 w3 w4 w5 : Value, args = #[w0, w1, w2, w3, w4, w5] := by
    have hs : args.size = 6 := by simpa [Cond.value, given_1] using hcount
    obtain ⟨L⟩ := args
    match L, hs with
    | [w0, w1, w2, w3, w4, w5], _ => exact ⟨w0, w1, w2, w3, w4, w5, rfl⟩
  have hw := fun d (hd : d ∈ tables_1) => atoms_spec (ws := Jvm.Cond.code x code maxLocals ret :: tables_1) hat d (List.mem_cons_of_mem _ hd)
  obtain ⟨hsets, hown0⟩ := atoms_of _ (rest_1_c_eq ▸ (show rest_1_c.before _ s = true from hrest))
  have hfit : Fit s := fun {y c} hc i hi => by
    obtain ⟨ha, rfl⟩ := Array.getElem?_eq_some_iff.mp hc
    have q := List.all_eq_true.mp ((Array.all_eq_true_iff_forall_mem.mp hF) _ (Array.getElem_mem ha)) i (List.mem_range.mpr hi)
    simpa [Array.getElem?_eq_getElem hi] using q
  obtain ⟨i0, ei0⟩ := is_v hi0
  obtain rfl : w0 = (.int i0) := Option.some.inj ei0
  obtain ⟨i1, ei1⟩ := is_v hi1
  obtain rfl : w1 = (.int i1) := Option.some.inj ei1
  obtain ⟨i2, ei2⟩ := is_v hi2
  obtain rfl : w2 = (.int i2) := Option.some.inj ei2
  obtain ⟨i3, ei3⟩ := is_v hi3
  obtain rfl : w3 = (.int i3) := Option.some.inj ei3
  obtain ⟨i4, ei4⟩ := is_v hi4
  obtain rfl : w4 = (.int i4) := Option.some.inj ei4
  obtain ⟨i5, ei5⟩ := is_v hi5
  obtain rfl : w5 = (.int i5) := Option.some.inj ei5
  obtain ⟨cz, ecz⟩ := is_v (Cond.before_iff.mp (hsets _ (List.mem_of_getElem? (i := 1) rfl)))
  have S_cs := Sta.start ecz (Or.inl (hsets _ (List.mem_of_getElem? (i := 0) rfl)))
  have hcz : ¬ cz.toInt = 0 := fun q => by
    have h2 := Cond.before_iff.mp (hsets _ (List.mem_of_getElem? (i := 2) rfl))
    have q0 : cz = 0 := Int32.toInt_inj.mp q
    subst q0
    simp only [Cond.value] at h2
    rw [ecz] at h2
    simp [Term.eval] at h2
  obtain ⟨fv, efv, hfv⟩ := Cond.isRef_spec (hsets _ (List.mem_of_getElem? (i := 8) rfl))
  have S_fm := Sta.start efv (Or.inl (hsets _ (List.mem_of_getElem? (i := 7) rfl)))
  have e_as := own_eqv (Cond.before_iff.mp (hsets _ (List.mem_of_getElem? (i := 12) rfl)))
  have S_as := Sta.start e_as (Or.inl (hsets _ (List.mem_of_getElem? (i := 11) rfl)))
  have e_hi := own_eqv (Cond.before_iff.mp (hsets _ (List.mem_of_getElem? (i := 15) rfl)))
  have S_hi := Sta.start e_hi (Or.inl (hsets _ (List.mem_of_getElem? (i := 14) rfl)))
  have e_lo := own_eqv (Cond.before_iff.mp (hsets _ (List.mem_of_getElem? (i := 18) rfl)))
  have S_lo := Sta.start e_lo (Or.inl (hsets _ (List.mem_of_getElem? (i := 17) rfl)))
  have hCH : CHv s own_EL s.vm s.heap := CHv.start (own_ew hw) (fun p hp => hcalls.1 p hp) (hsets _ (List.mem_of_getElem? (i := 2) rfl)) (hw _ (List.mem_of_getElem? (i := 23) rfl)) (hw _ (List.mem_of_getElem? (i := 10) rfl))
  obtain ⟨n, o, h1, h2, h3, _, L, rfl, ⟨rfl, N⟩, -, hq⟩ := rm_law l s _ hw tables_1 i0 i1 i2 i3 i4 i5 cz fv s.heap s.heap.size (Nat.le_refl _) S_cs S_fm S_as S_hi S_lo hcz hfv p e ha hc hk s m _ below hf ((Spec.applies_iff_loose hf).mp happ).1 ⟨rfl, State.Warmed39.refl s, rfl, hCH⟩ trivial
  refine ⟨n, _, h1, h2, h3, hpost _ _ _ _ _ _ ⟨Cond.after_iff.mpr rfl, Cond.after_iff.mpr (eq_i res_at (Term.int_eval (1)) rfl), trivial⟩ ⟨hq.1, hq.2.1, hq.2.2.1, (hq.2.2.2.sift fun y hy => Or.inr (N y hy)).mono (by decide) (by decide)⟩⟩
theorem main_1_1 : Claimed_1_1 := comes_1 fun _ _ _ _ _ _ h hF => ⟨h.1, hF⟩
theorem main_1_2 : Claimed_1_2 := comes_1 fun _ _ _ _ _ _ h hF => ⟨h.2.1, hF⟩
end Jvm.Pilot.@@N@@
namespace Jvm.Pilot.@@N@@
open Jvm Jvm.ClassFile Sem Op Lib Jvm.Free Jvm.Stand Jvm.Pilot.@@N@@.Jvm.D
/-! MADE BY PROGRAM (witnessworld.py) out of the Statement's table words and the real class files: 23 classes; the members and pool entries that the words name. The judged class is class 1, her method 1. -/
namespace start1
open Jvm.ClassFile
def u (s : String) : CpInfo := .utf8 (stringToUtf16 s)
/-- a pool by its gaps: so many unusable entries, then the entry; so many at the end -/
def gap : Nat → List CpInfo → List CpInfo
  | 0, r => r
  | n + 1, r => .unusable :: gap n r
def poolList (es : List (Nat × CpInfo)) (last : Nat) : List CpInfo := es.foldr (fun e r => gap e.1 (e.2 :: r)) (gap last [])
def pool (es : List (Nat × CpInfo)) (last : Nat) : Array CpInfo := ⟨poolList es last⟩
def fileOf (pool : Array CpInfo) (this : Nat) (attrs : Array Attribute := #[]) (ms : Array MethodInfo := #[]) (fl : Nat := 33) (sup : Nat := 0) (ifs : Array Nat := #[]) (fds : Array FieldInfo := #[]) : ClassFile where
  minorVersion := 0
  majorVersion := 65
  constantPool := pool
  accessFlags := fl
  thisClass := this
  superClass := sup
  interfaces := ifs
  fields := fds
  methods := ms
  attributes := attrs
def plain (name : String) (sup : Option ClassId) : Class where
  name := name
  kind := .ordinary
  loader := none
  accessFlags := 33
  super := sup
  interfaces := #[]
  cf := none
  fields := #[]
  methods := #[]
  instanceTypes := #[]
  staticTypes := #[]
  resolved := #[]
  callSites := []
  init := .initialized
  statics := none
  mirror := none

def pool0 : Array CpInfo := pool [(5, u "<init>"), (0, u "()V"), (1, .class_ 10), (1, u "java/lang/Object")] 113

def k0c0 : Code := { maxStack := 0, maxLocals := 1, code := object_method_1_code, exceptionTable := #[], attributes := #[] }
def k0m0 : Method := { name := "<init>", desc := "()V", sig := { parameters := [], returnType := none }, accessFlags := 1, code := some k0c0 }
/-- java/lang/Object -/
def k0 : Class := { plain "java/lang/Object" none with
  accessFlags := 33
  interfaces := #[]
  cf := some (fileOf pool0 8 #[] #[{ accessFlags := 1, nameIndex := 5, descriptorIndex := 6, attributes := #[] }] 33 0 #[] #[])
  fields := #[]
  methods := #[k0m0]
  instanceTypes := #[]
  staticTypes := #[]
  resolved := Array.replicate 124 none
  statics := none }

def pool1 : Array CpInfo := pool [(2, .class_ 4), (1, u "java/lang/Object"), (0, u "<init>"), (0, u "()V"), (0, .integer 2147483647), (0, .methodref 9 10), (0, .class_ 11), (0, .nameAndType 12 13), (0, u "com/example/linkvouch/linkvouch/AttributeValueTrimmedPinLaw"), (0, u "pick"), (0, u "(I)C"), (0, .methodref 9 15), (0, .nameAndType 16 17), (0, u "make"), (0, u "(ICCCCC)Ljava/lang/String;"), (0, .methodref 19 20), (0, .class_ 21), (0, .nameAndType 22 23), (0, u "com/example/linkvouch/linkvouch/AttributeValue"), (0, u "trimmed"), (0, u "(Ljava/lang/String;)Ljava/lang/String;"), (0, .methodref 9 25), (0, .nameAndType 26 27), (0, u "ws"), (0, u "(C)Z"), (0, .methodref 29 30), (0, .class_ 31), (0, .nameAndType 32 33), (0, u "java/lang/String"), (0, u "length"), (0, u "()I"), (0, .methodref 9 35), (0, .nameAndType 36 37), (0, u "same"), (0, u "(Ljava/lang/String;IIICCCCC)Z"), (0, .methodref 29 39), (0, .nameAndType 40 13), (0, u "charAt"), (0, .methodref 9 42), (0, .nameAndType 43 44), (0, u "at"), (0, u "(ICCCCC)C"), (0, .methodref 29 46), (0, .nameAndType 5 47), (0, u "([C)V"), (2, u "law"), (0, u "(IIIIII)Z")] 3

def k1m0 : Method := { name := "<init>", desc := "()V", sig := { parameters := [], returnType := none }, accessFlags := 2, code := none }
def k1c1 : Code := { maxStack := 9, maxLocals := 22, code := code, exceptionTable := #[], attributes := #[] }
def k1m1 : Method := { name := "law", desc := "(IIIIII)Z", sig := { parameters := [.int, .int, .int, .int, .int, .int], returnType := some .boolean }, accessFlags := 9, code := some k1c1 }
def k1c2 : Code := { maxStack := 7, maxLocals := 9, code := method_3_code, exceptionTable := #[], attributes := #[] }
def k1m2 : Method := { name := "same", desc := "(Ljava/lang/String;IIICCCCC)Z", sig := { parameters := [(.object "java/lang/String"), .int, .int, .int, .char, .char, .char, .char, .char], returnType := some .boolean }, accessFlags := 10, code := some k1c2 }
def k1c3 : Code := { maxStack := 2, maxLocals := 6, code := method_4_code, exceptionTable := #[], attributes := #[] }
def k1m3 : Method := { name := "at", desc := "(ICCCCC)C", sig := { parameters := [.int, .char, .char, .char, .char, .char], returnType := some .char }, accessFlags := 10, code := some k1c3 }
def k1c4 : Code := { maxStack := 2, maxLocals := 1, code := method_5_code, exceptionTable := #[], attributes := #[] }
def k1m4 : Method := { name := "ws", desc := "(C)Z", sig := { parameters := [.char], returnType := some .boolean }, accessFlags := 10, code := some k1c4 }
def k1c5 : Code := { maxStack := 4, maxLocals := 2, code := method_6_code, exceptionTable := #[], attributes := #[] }
def k1m5 : Method := { name := "pick", desc := "(I)C", sig := { parameters := [.int], returnType := some .char }, accessFlags := 10, code := some k1c5 }
def k1c6 : Code := { maxStack := 6, maxLocals := 6, code := method_7_code, exceptionTable := #[], attributes := #[] }
def k1m6 : Method := { name := "make", desc := "(ICCCCC)Ljava/lang/String;", sig := { parameters := [.int, .char, .char, .char, .char, .char], returnType := some (.object "java/lang/String") }, accessFlags := 10, code := some k1c6 }
/-- com/example/linkvouch/linkvouch/AttributeValueTrimmedPinLaw -/
def k1 : Class := { plain "com/example/linkvouch/linkvouch/AttributeValueTrimmedPinLaw" (some 0) with
  accessFlags := 49
  interfaces := #[]
  cf := some (fileOf pool1 9 #[] #[{ accessFlags := 2, nameIndex := 5, descriptorIndex := 6, attributes := #[] }, { accessFlags := 9, nameIndex := 50, descriptorIndex := 51, attributes := #[] }, { accessFlags := 10, nameIndex := 36, descriptorIndex := 37, attributes := #[] }, { accessFlags := 10, nameIndex := 43, descriptorIndex := 44, attributes := #[] }, { accessFlags := 10, nameIndex := 26, descriptorIndex := 27, attributes := #[] }, { accessFlags := 10, nameIndex := 12, descriptorIndex := 13, attributes := #[] }, { accessFlags := 10, nameIndex := 16, descriptorIndex := 17, attributes := #[] }] 49 2 #[] #[])
  fields := #[]
  methods := #[k1m0, k1m1, k1m2, k1m3, k1m4, k1m5, k1m6]
  instanceTypes := #[]
  staticTypes := #[]
  resolved := Array.replicate 55 none
  statics := none }

def pool2 : Array CpInfo := pool [(1, .class_ 2), (0, u "java/io/Serializable"), (0, .class_ 4), (0, u "java/lang/Object")] 2

/-- java/io/Serializable -/
def k2 : Class := { plain "java/io/Serializable" (some 0) with
  accessFlags := 1537
  interfaces := #[]
  cf := some (fileOf pool2 1 #[] #[] 1537 3 #[] #[])
  fields := #[]
  methods := #[]
  instanceTypes := #[]
  staticTypes := #[]
  resolved := Array.replicate 7 none
  statics := none }

def pool3 : Array CpInfo := pool [(1, .class_ 2), (0, u "java/lang/Comparable"), (0, .class_ 4), (0, u "java/lang/Object")] 7

/-- java/lang/Comparable -/
def k3 : Class := { plain "java/lang/Comparable" (some 0) with
  accessFlags := 1537
  interfaces := #[]
  cf := some (fileOf pool3 1 #[] #[] 1537 3 #[] #[])
  fields := #[]
  methods := #[]
  instanceTypes := #[]
  staticTypes := #[]
  resolved := Array.replicate 12 none
  statics := none }

def pool4 : Array CpInfo := pool [(2, .class_ 4), (1, u "java/lang/CharSequence"), (42, .class_ 48), (0, u "java/lang/CharSequence$1CodePointIterator"), (10, .class_ 60), (0, u "java/lang/CharSequence$1CharIterator"), (5, .class_ 67), (0, u "java/lang/Object")] 63

/-- java/lang/CharSequence -/
def k4 : Class := { plain "java/lang/CharSequence" (some 0) with
  accessFlags := 1537
  interfaces := #[]
  cf := some (fileOf pool4 2 #[.nestMembers #[47, 59]] #[] 1537 66 #[] #[])
  fields := #[]
  methods := #[]
  instanceTypes := #[]
  staticTypes := #[]
  resolved := Array.replicate 131 none
  statics := none }

def pool5 : Array CpInfo := pool [(1, .class_ 2), (0, u "java/lang/constant/Constable"), (0, .class_ 4), (0, u "java/lang/Object")] 6

/-- java/lang/constant/Constable -/
def k5 : Class := { plain "java/lang/constant/Constable" (some 0) with
  accessFlags := 1537
  interfaces := #[]
  cf := some (fileOf pool5 1 #[] #[] 1537 3 #[] #[])
  fields := #[]
  methods := #[]
  instanceTypes := #[]
  staticTypes := #[]
  resolved := Array.replicate 11 none
  statics := none }

def pool6 : Array CpInfo := pool [(1, .class_ 2), (0, u "java/lang/constant/ConstantDesc"), (0, .class_ 4), (0, u "java/lang/Object")] 32

/-- java/lang/constant/ConstantDesc -/
def k6 : Class := { plain "java/lang/constant/ConstantDesc" (some 0) with
  accessFlags := 1537
  interfaces := #[]
  cf := some (fileOf pool6 1 #[] #[] 1537 3 #[] #[])
  fields := #[]
  methods := #[]
  instanceTypes := #[]
  staticTypes := #[]
  resolved := Array.replicate 37 none
  statics := none }

def pool7 : Array CpInfo := pool [(1, .methodref 2 3), (0, .class_ 4), (0, .nameAndType 5 6), (0, u "java/lang/Object"), (0, u "<init>"), (0, u "()V"), (0, .string 8), (0, u ""), (0, .fieldref 10 11), (0, .class_ 12), (0, .nameAndType 13 14), (0, u "java/lang/String"), (0, u "value"), (0, u "[B"), (0, .fieldref 10 16), (0, .nameAndType 17 18), (0, u "coder"), (0, u "B"), (2, u "hash"), (0, u "I"), (2, u "hashIsZero"), (0, u "Z"), (0, .methodref 10 28), (0, .nameAndType 5 29), (0, u "([CIILjava/lang/Void;)V"), (6, u "checkBoundsOffCount"), (0, u "(III)I"), (0, .fieldref 10 39), (0, .nameAndType 40 26), (0, u "COMPACT_STRINGS"), (1, .class_ 44), (1, u "java/lang/StringUTF16"), (0, u "compress"), (1, .methodref 42 48), (0, .nameAndType 49 50), (0, u "coderFromArrayLen"), (0, u "([BI)B"), (56, .class_ 109), (1, u "java/lang/StringLatin1"), (32, u "()Z"), (34, .methodref 42 178), (0, .nameAndType 45 179), (0, u "([CII)[B"), (31, u "([BB)V"), (122, u "()I"), (0, .methodref 10 336), (0, .nameAndType 17 337), (0, u "()B"), (25, u "([BI)C"), (27, u "(II)V"), (35, u "(I)C"), (64, .methodref 10 493), (0, .nameAndType 494 142), (0, u "isLatin1"), (0, .methodref 107 496), (0, .nameAndType 497 363), (0, u "charAt"), (0, .methodref 42 496), (2, u "checkIndex"), (3, .methodref 10 506), (0, .nameAndType 507 334), (0, u "length"), (5, u "checkFromToIndex"), (7, .methodref 10 522), (0, .nameAndType 523 524), (0, u "checkBoundsBeginEnd"), (0, u "(III)V"), (50, .class_ 576), (0, u "java/lang/CharSequence"), (22, u "CASE_INSENSITIVE_ORDER"), (0, u "Ljava/util/Comparator;"), (82, u "substring"), (0, u "(II)Ljava/lang/String;"), (0, .methodref 107 686), (0, .nameAndType 687 688), (0, u "newString"), (0, u "([BII)Ljava/lang/String;"), (0, .methodref 42 686), (320, u "([C)V"), (42, .fieldref 1054 1055), (0, .class_ 1056), (0, .nameAndType 1057 1058), (0, u "jdk/internal/util/Preconditions"), (0, u "SIOOBE_FORMATTER"), (0, u "Ljava/util/function/BiFunction;"), (0, .methodref 1054 1060), (0, .nameAndType 501 1061), (0, u "(IILjava/util/function/BiFunction;)I"), (0, .methodref 1054 1063), (0, .nameAndType 513 1064), (0, u "(IIILjava/util/function/BiFunction;)I"), (0, .methodref 1054 1066), (0, .nameAndType 1067 1064), (0, u "checkFromIndexSize"), (33, u "serialPersistentFields"), (0, u "[Ljava/io/ObjectStreamField;"), (0, .class_ 1104), (0, u "java/lang/String$CaseInsensitiveComparator"), (1, .class_ 1107), (0, u "java/io/Serializable"), (0, .class_ 1109), (0, u "java/lang/Comparable"), (0, .class_ 1111), (0, u "java/lang/constant/Constable"), (0, .class_ 1113), (0, u "java/lang/constant/ConstantDesc"), (2, u "serialVersionUID"), (0, u "J"), (3, u "REPL"), (0, u "C"), (2, u "LATIN1"), (1, u "UTF16")] 323

def k7m0 : Method := { name := "<init>", desc := "()V", sig := { parameters := [], returnType := none }, accessFlags := 1, code := none }
def k7c1 : Code := { maxStack := 5, maxLocals := 2, code := jdk_42_method_3_code, exceptionTable := #[], attributes := #[] }
def k7m1 : Method := { name := "<init>", desc := "([C)V", sig := { parameters := [(.array .char)], returnType := none }, accessFlags := 1, code := some k7c1 }
def k7c2 : Code := { maxStack := 2, maxLocals := 1, code := jdk_42_method_54_code, exceptionTable := #[], attributes := #[] }
def k7m2 : Method := { name := "length", desc := "()I", sig := { parameters := [], returnType := some .int }, accessFlags := 1, code := some k7c2 }
def k7c3 : Code := { maxStack := 2, maxLocals := 2, code := jdk_42_method_56_code, exceptionTable := #[], attributes := #[] }
def k7m3 : Method := { name := "charAt", desc := "(I)C", sig := { parameters := [.int], returnType := some .char }, accessFlags := 1, code := some k7c3 }
def k7c4 : Code := { maxStack := 3, maxLocals := 5, code := jdk_42_method_92_code, exceptionTable := #[], attributes := #[] }
def k7m4 : Method := { name := "substring", desc := "(II)Ljava/lang/String;", sig := { parameters := [.int, .int], returnType := some (.object "java/lang/String") }, accessFlags := 1, code := some k7c4 }
def k7c5 : Code := { maxStack := 4, maxLocals := 6, code := jdk_42_method_149_code, exceptionTable := #[], attributes := #[] }
def k7m5 : Method := { name := "<init>", desc := "([CIILjava/lang/Void;)V", sig := { parameters := [(.array .char), .int, .int, (.object "java/lang/Void")], returnType := none }, accessFlags := 2, code := some k7c5 }
def k7c6 : Code := { maxStack := 2, maxLocals := 3, code := jdk_42_method_151_code, exceptionTable := #[], attributes := #[] }
def k7m6 : Method := { name := "<init>", desc := "([BB)V", sig := { parameters := [(.array .byte), .byte], returnType := none }, accessFlags := 0, code := some k7c6 }
def k7c7 : Code := { maxStack := 1, maxLocals := 1, code := jdk_42_method_152_code, exceptionTable := #[], attributes := #[] }
def k7m7 : Method := { name := "coder", desc := "()B", sig := { parameters := [], returnType := some .byte }, accessFlags := 0, code := some k7c7 }
def k7c8 : Code := { maxStack := 1, maxLocals := 1, code := jdk_42_method_154_code, exceptionTable := #[], attributes := #[] }
def k7m8 : Method := { name := "isLatin1", desc := "()Z", sig := { parameters := [], returnType := some .boolean }, accessFlags := 0, code := some k7c8 }
def k7c9 : Code := { maxStack := 3, maxLocals := 2, code := jdk_42_method_155_code, exceptionTable := #[], attributes := #[] }
def k7m9 : Method := { name := "checkIndex", desc := "(II)V", sig := { parameters := [.int, .int], returnType := none }, accessFlags := 8, code := some k7c9 }
def k7c10 : Code := { maxStack := 4, maxLocals := 3, code := jdk_42_method_157_code, exceptionTable := #[], attributes := #[] }
def k7m10 : Method := { name := "checkBoundsOffCount", desc := "(III)I", sig := { parameters := [.int, .int, .int], returnType := some .int }, accessFlags := 8, code := some k7c10 }
def k7c11 : Code := { maxStack := 4, maxLocals := 3, code := jdk_42_method_158_code, exceptionTable := #[], attributes := #[] }
def k7m11 : Method := { name := "checkBoundsBeginEnd", desc := "(III)V", sig := { parameters := [.int, .int, .int], returnType := none }, accessFlags := 8, code := some k7c11 }
/-- java/lang/String -/
def k7 : Class := { plain "java/lang/String" (some 0) with
  accessFlags := 49
  interfaces := #[2, 3, 4, 5, 6]
  cf := some (fileOf pool7 10 #[.nestMembers #[1103]] #[{ accessFlags := 1, nameIndex := 5, descriptorIndex := 6, attributes := #[] }, { accessFlags := 1, nameIndex := 5, descriptorIndex := 1010, attributes := #[] }, { accessFlags := 1, nameIndex := 507, descriptorIndex := 334, attributes := #[] }, { accessFlags := 1, nameIndex := 497, descriptorIndex := 427, attributes := #[] }, { accessFlags := 1, nameIndex := 683, descriptorIndex := 684, attributes := #[] }, { accessFlags := 2, nameIndex := 5, descriptorIndex := 29, attributes := #[] }, { accessFlags := 0, nameIndex := 5, descriptorIndex := 211, attributes := #[] }, { accessFlags := 0, nameIndex := 17, descriptorIndex := 337, attributes := #[] }, { accessFlags := 0, nameIndex := 494, descriptorIndex := 142, attributes := #[] }, { accessFlags := 8, nameIndex := 501, descriptorIndex := 391, attributes := #[] }, { accessFlags := 8, nameIndex := 36, descriptorIndex := 37, attributes := #[] }, { accessFlags := 8, nameIndex := 523, descriptorIndex := 524, attributes := #[] }] 49 2 #[1106, 1108, 575, 1110, 1112] #[{ accessFlags := 18, nameIndex := 13, descriptorIndex := 14, attributes := #[] }, { accessFlags := 18, nameIndex := 17, descriptorIndex := 18, attributes := #[] }, { accessFlags := 2, nameIndex := 21, descriptorIndex := 22, attributes := #[] }, { accessFlags := 2, nameIndex := 25, descriptorIndex := 26, attributes := #[] }, { accessFlags := 26, nameIndex := 1116, descriptorIndex := 1117, attributes := #[] }, { accessFlags := 24, nameIndex := 40, descriptorIndex := 26, attributes := #[] }, { accessFlags := 26, nameIndex := 1101, descriptorIndex := 1102, attributes := #[] }, { accessFlags := 26, nameIndex := 1121, descriptorIndex := 1122, attributes := #[] }, { accessFlags := 25, nameIndex := 599, descriptorIndex := 600, attributes := #[] }, { accessFlags := 24, nameIndex := 1125, descriptorIndex := 18, attributes := #[] }, { accessFlags := 24, nameIndex := 1127, descriptorIndex := 18, attributes := #[] }])
  fields := #[{ name := "value", type := (.array .byte), accessFlags := 18, slot := 0, constantValue := 0 }, { name := "coder", type := .byte, accessFlags := 18, slot := 1, constantValue := 0 }, { name := "hash", type := .int, accessFlags := 2, slot := 2, constantValue := 0 }, { name := "hashIsZero", type := .boolean, accessFlags := 2, slot := 3, constantValue := 0 }, { name := "serialVersionUID", type := .long, accessFlags := 26, slot := 0, constantValue := 0 }, { name := "COMPACT_STRINGS", type := .boolean, accessFlags := 24, slot := 1, constantValue := 0 }, { name := "serialPersistentFields", type := (.array (.object "java/io/ObjectStreamField")), accessFlags := 26, slot := 2, constantValue := 0 }, { name := "REPL", type := .char, accessFlags := 26, slot := 3, constantValue := 0 }, { name := "CASE_INSENSITIVE_ORDER", type := (.object "java/util/Comparator"), accessFlags := 25, slot := 4, constantValue := 0 }, { name := "LATIN1", type := .byte, accessFlags := 24, slot := 5, constantValue := 0 }, { name := "UTF16", type := .byte, accessFlags := 24, slot := 6, constantValue := 0 }]
  methods := #[k7m0, k7m1, k7m2, k7m3, k7m4, k7m5, k7m6, k7m7, k7m8, k7m9, k7m10, k7m11]
  instanceTypes := #[(.array .byte), .byte, .int, .boolean]
  staticTypes := #[.long, .boolean, (.array (.object "java/io/ObjectStreamField")), .char, (.object "java/util/Comparator"), .byte, .byte]
  resolved := Array.replicate 1451 none
  statics := some 0 }

def pool8 : Array CpInfo := pool [(2, .class_ 4), (1, u "java/lang/Object"), (0, u "<init>"), (0, u "()V"), (3, .class_ 12), (1, u "java/lang/String"), (6, .methodref 10 20), (0, .nameAndType 21 22), (0, u "length"), (0, u "()I"), (3, .methodref 10 27), (0, .nameAndType 28 29), (0, u "charAt"), (0, u "(I)C"), (0, .class_ 31), (0, u "com/example/linkvouch/linkvouch/AttributeValue"), (19, .methodref 30 52), (0, .nameAndType 53 54), (0, u "isSpace"), (0, u "(C)Z"), (7, .methodref 10 63), (0, .nameAndType 64 65), (0, u "substring"), (0, u "(II)Ljava/lang/String;"), (0, .long 4294983168), (16, u "(Ljava/lang/String;)Ljava/lang/String;"), (4, u "ESCAPE"), (0, u "C"), (2, u "UNIT_DIGITS"), (0, u "I"), (1, u "QUOTE"), (1, u "APOSTROPHE"), (1, u "SPACES"), (0, u "J"), (6, u "trimmed")] 17

def k8m0 : Method := { name := "<init>", desc := "()V", sig := { parameters := [], returnType := none }, accessFlags := 2, code := none }
def k8c1 : Code := { maxStack := 3, maxLocals := 3, code := prog_2_method_7_code, exceptionTable := #[], attributes := #[] }
def k8m1 : Method := { name := "trimmed", desc := "(Ljava/lang/String;)Ljava/lang/String;", sig := { parameters := [(.object "java/lang/String")], returnType := some (.object "java/lang/String") }, accessFlags := 8, code := some k8c1 }
def k8c2 : Code := { maxStack := 5, maxLocals := 1, code := prog_2_method_8_code, exceptionTable := #[], attributes := #[] }
def k8m2 : Method := { name := "isSpace", desc := "(C)Z", sig := { parameters := [.char], returnType := some .boolean }, accessFlags := 10, code := some k8c2 }
/-- com/example/linkvouch/linkvouch/AttributeValue -/
def k8 : Class := { plain "com/example/linkvouch/linkvouch/AttributeValue" (some 0) with
  accessFlags := 48
  interfaces := #[]
  cf := some (fileOf pool8 30 #[] #[{ accessFlags := 2, nameIndex := 5, descriptorIndex := 6, attributes := #[] }, { accessFlags := 8, nameIndex := 107, descriptorIndex := 83, attributes := #[] }, { accessFlags := 10, nameIndex := 53, descriptorIndex := 54, attributes := #[] }] 48 2 #[] #[{ accessFlags := 26, nameIndex := 88, descriptorIndex := 89, attributes := #[] }, { accessFlags := 26, nameIndex := 92, descriptorIndex := 93, attributes := #[] }, { accessFlags := 26, nameIndex := 95, descriptorIndex := 89, attributes := #[] }, { accessFlags := 26, nameIndex := 97, descriptorIndex := 89, attributes := #[] }, { accessFlags := 26, nameIndex := 99, descriptorIndex := 100, attributes := #[] }])
  fields := #[{ name := "ESCAPE", type := .char, accessFlags := 26, slot := 0, constantValue := 0 }, { name := "UNIT_DIGITS", type := .int, accessFlags := 26, slot := 1, constantValue := 0 }, { name := "QUOTE", type := .char, accessFlags := 26, slot := 2, constantValue := 0 }, { name := "APOSTROPHE", type := .char, accessFlags := 26, slot := 3, constantValue := 0 }, { name := "SPACES", type := .long, accessFlags := 26, slot := 4, constantValue := 0 }]
  methods := #[k8m0, k8m1, k8m2]
  instanceTypes := #[]
  staticTypes := #[.char, .int, .char, .char, .long]
  resolved := Array.replicate 125 none
  statics := none }

def pool9 : Array CpInfo := pool [(2, .class_ 4), (1, u "java/lang/Object"), (0, u "<init>"), (0, u "()V"), (17, .class_ 26), (1, u "jdk/internal/util/Preconditions"), (6, u "checkIndex"), (13, u "checkFromToIndex"), (1, u "checkFromIndexSize"), (5, .class_ 56), (0, u "jdk/internal/util/Preconditions$4"), (57, .class_ 115), (0, u "jdk/internal/util/Preconditions$1"), (7, u "SIOOBE_FORMATTER"), (0, u "Ljava/util/function/BiFunction;"), (0, .class_ 126), (0, u "jdk/internal/util/Preconditions$2"), (3, u "AIOOBE_FORMATTER"), (0, .class_ 132), (0, u "jdk/internal/util/Preconditions$3"), (3, u "IOOBE_FORMATTER"), (41, u "(IILjava/util/function/BiFunction;)I"), (4, u "(IIILjava/util/function/BiFunction;)I")] 10

def k9m0 : Method := { name := "<init>", desc := "()V", sig := { parameters := [], returnType := none }, accessFlags := 1, code := none }
def k9c1 : Code := { maxStack := 3, maxLocals := 3, code := jdk_41_method_11_code, exceptionTable := #[], attributes := #[] }
def k9m1 : Method := { name := "checkIndex", desc := "(IILjava/util/function/BiFunction;)I", sig := { parameters := [.int, .int, (.object "java/util/function/BiFunction")], returnType := some .int }, accessFlags := 9, code := some k9c1 }
def k9c2 : Code := { maxStack := 4, maxLocals := 4, code := jdk_41_method_12_code, exceptionTable := #[], attributes := #[] }
def k9m2 : Method := { name := "checkFromToIndex", desc := "(IIILjava/util/function/BiFunction;)I", sig := { parameters := [.int, .int, .int, (.object "java/util/function/BiFunction")], returnType := some .int }, accessFlags := 9, code := some k9c2 }
def k9c3 : Code := { maxStack := 4, maxLocals := 4, code := jdk_41_method_13_code, exceptionTable := #[], attributes := #[] }
def k9m3 : Method := { name := "checkFromIndexSize", desc := "(IIILjava/util/function/BiFunction;)I", sig := { parameters := [.int, .int, .int, (.object "java/util/function/BiFunction")], returnType := some .int }, accessFlags := 9, code := some k9c3 }
/-- jdk/internal/util/Preconditions -/
def k9 : Class := { plain "jdk/internal/util/Preconditions" (some 0) with
  accessFlags := 33
  interfaces := #[]
  cf := some (fileOf pool9 24 #[.nestMembers #[55, 131, 125, 114]] #[{ accessFlags := 1, nameIndex := 5, descriptorIndex := 6, attributes := #[] }, { accessFlags := 9, nameIndex := 33, descriptorIndex := 178, attributes := #[] }, { accessFlags := 9, nameIndex := 47, descriptorIndex := 183, attributes := #[] }, { accessFlags := 9, nameIndex := 49, descriptorIndex := 183, attributes := #[] }] 33 2 #[] #[{ accessFlags := 25, nameIndex := 123, descriptorIndex := 124, attributes := #[] }, { accessFlags := 25, nameIndex := 130, descriptorIndex := 124, attributes := #[] }, { accessFlags := 25, nameIndex := 136, descriptorIndex := 124, attributes := #[] }])
  fields := #[{ name := "SIOOBE_FORMATTER", type := (.object "java/util/function/BiFunction"), accessFlags := 25, slot := 0, constantValue := 0 }, { name := "AIOOBE_FORMATTER", type := (.object "java/util/function/BiFunction"), accessFlags := 25, slot := 1, constantValue := 0 }, { name := "IOOBE_FORMATTER", type := (.object "java/util/function/BiFunction"), accessFlags := 25, slot := 2, constantValue := 0 }]
  methods := #[k9m0, k9m1, k9m2, k9m3]
  instanceTypes := #[]
  staticTypes := #[(.object "java/util/function/BiFunction"), (.object "java/util/function/BiFunction"), (.object "java/util/function/BiFunction")]
  resolved := Array.replicate 194 none
  statics := some 1 }

def pool10 : Array CpInfo := pool [(3, .class_ 4), (0, u "java/lang/String"), (1, .class_ 8), (1, u "java/lang/Object"), (0, u "<init>"), (0, u "()V"), (0, .methodref 12 13), (0, .class_ 14), (0, .nameAndType 15 16), (0, u "java/lang/StringUTF16"), (0, u "newBytesLength"), (0, u "(I)I"), (3, .integer 1073741823), (23, .fieldref 12 45), (0, .nameAndType 46 47), (0, u "$assertionsDisabled"), (0, u "Z"), (0, .methodref 12 49), (0, .nameAndType 50 51), (0, u "length"), (0, u "([B)I"), (7, .fieldref 12 60), (0, .nameAndType 61 62), (0, u "HI_BYTE_SHIFT"), (0, u "I"), (0, .fieldref 12 64), (0, .nameAndType 65 62), (0, u "LO_BYTE_SHIFT"), (1, .methodref 12 68), (0, .nameAndType 69 70), (0, u "checkIndex"), (0, u "(I[B)V"), (0, .methodref 12 72), (0, .nameAndType 73 74), (0, u "getChar"), (0, u "([BI)C"), (24, u "(II[B)V"), (7, .methodref 12 108), (0, .nameAndType 109 110), (0, u "newBytesFor"), (0, u "(I)[B"), (0, .methodref 12 112), (0, .nameAndType 113 114), (0, u "putChar"), (0, u "([BII)V"), (0, .methodref 12 116), (0, .nameAndType 117 118), (0, u "compress"), (0, u "([CI[BII)I"), (0, .methodref 12 120), (0, .nameAndType 121 122), (0, u "toBytes"), (0, u "([CII)[B"), (0, .methodref 12 124), (0, .nameAndType 117 125), (0, u "([BI[BII)I"), (0, .methodref 127 128), (0, .class_ 129), (0, .nameAndType 130 131), (0, u "java/util/Arrays"), (0, u "copyOfRange"), (0, u "([BII)[B"), (41, .methodref 12 174), (0, .nameAndType 175 99), (0, u "checkBoundsOffCount"), (75, .fieldref 3 252), (0, .nameAndType 253 47), (0, u "COMPACT_STRINGS"), (3, .methodref 12 258), (0, .nameAndType 117 131), (0, .methodref 12 260), (0, .nameAndType 261 262), (0, u "coderFromArrayLen"), (0, u "([BI)B"), (0, .methodref 3 264), (0, .nameAndType 9 265), (0, u "([BB)V"), (15, u "(III)I"), (45, u "newString"), (0, u "([BII)Ljava/lang/String;"), (40, .class_ 371), (1, u "java/lang/StringUTF16$LinesSpliterator"), (20, u "charAt"), (21, .methodref 3 415), (0, .nameAndType 69 416), (0, u "(II)V"), (2, .methodref 3 420), (0, .nameAndType 175 281), (9, u "MAX_LENGTH"), (196, .class_ 628), (0, u "java/lang/StringUTF16$CodePointsSpliterator"), (0, .class_ 630), (0, u "java/lang/StringUTF16$CharsSpliterator")] 4

def k10m0 : Method := { name := "<init>", desc := "()V", sig := { parameters := [], returnType := none }, accessFlags := 0, code := none }
def k10c1 : Code := { maxStack := 1, maxLocals := 1, code := jdk_52_method_2_code, exceptionTable := #[], attributes := #[] }
def k10m1 : Method := { name := "newBytesFor", desc := "(I)[B", sig := { parameters := [.int], returnType := some (.array .byte) }, accessFlags := 9, code := some k10c1 }
def k10c2 : Code := { maxStack := 4, maxLocals := 1, code := jdk_52_method_3_code, exceptionTable := #[], attributes := #[] }
def k10m2 : Method := { name := "newBytesLength", desc := "(I)I", sig := { parameters := [.int], returnType := some .int }, accessFlags := 9, code := some k10c2 }
def k10c3 : Code := { maxStack := 4, maxLocals := 3, code := jdk_52_method_4_code, exceptionTable := #[], attributes := #[] }
def k10m3 : Method := { name := "putChar", desc := "([BII)V", sig := { parameters := [(.array .byte), .int, .int], returnType := none }, accessFlags := 8, code := some k10c3 }
def k10c4 : Code := { maxStack := 3, maxLocals := 2, code := jdk_52_method_5_code, exceptionTable := #[], attributes := #[] }
def k10m4 : Method := { name := "getChar", desc := "([BI)C", sig := { parameters := [(.array .byte), .int], returnType := some .char }, accessFlags := 8, code := some k10c4 }
def k10c5 : Code := { maxStack := 2, maxLocals := 1, code := jdk_52_method_6_code, exceptionTable := #[], attributes := #[] }
def k10m5 : Method := { name := "length", desc := "([B)I", sig := { parameters := [(.array .byte)], returnType := some .int }, accessFlags := 9, code := some k10c5 }
def k10c6 : Code := { maxStack := 4, maxLocals := 5, code := jdk_52_method_14_code, exceptionTable := #[], attributes := #[] }
def k10m6 : Method := { name := "toBytes", desc := "([CII)[B", sig := { parameters := [(.array .char), .int, .int], returnType := some (.array .byte) }, accessFlags := 9, code := some k10c6 }
def k10c7 : Code := { maxStack := 2, maxLocals := 2, code := jdk_52_method_15_code, exceptionTable := #[], attributes := #[] }
def k10m7 : Method := { name := "coderFromArrayLen", desc := "([BI)B", sig := { parameters := [(.array .byte), .int], returnType := some .byte }, accessFlags := 8, code := some k10c7 }
def k10c8 : Code := { maxStack := 5, maxLocals := 6, code := jdk_52_method_16_code, exceptionTable := #[], attributes := #[] }
def k10m8 : Method := { name := "compress", desc := "([CII)[B", sig := { parameters := [(.array .char), .int, .int], returnType := some (.array .byte) }, accessFlags := 9, code := some k10c8 }
def k10c9 : Code := { maxStack := 5, maxLocals := 6, code := jdk_52_method_17_code, exceptionTable := #[], attributes := #[] }
def k10m9 : Method := { name := "compress", desc := "([BII)[B", sig := { parameters := [(.array .byte), .int, .int], returnType := some (.array .byte) }, accessFlags := 9, code := some k10c9 }
def k10c10 : Code := { maxStack := 3, maxLocals := 7, code := jdk_52_method_21_code, exceptionTable := #[], attributes := #[] }
def k10m10 : Method := { name := "compress", desc := "([CI[BII)I", sig := { parameters := [(.array .char), .int, (.array .byte), .int, .int], returnType := some .int }, accessFlags := 9, code := some k10c10 }
def k10c11 : Code := { maxStack := 3, maxLocals := 7, code := jdk_52_method_22_code, exceptionTable := #[], attributes := #[] }
def k10m11 : Method := { name := "compress", desc := "([BI[BII)I", sig := { parameters := [(.array .byte), .int, (.array .byte), .int, .int], returnType := some .int }, accessFlags := 9, code := some k10c11 }
def k10c12 : Code := { maxStack := 6, maxLocals := 5, code := jdk_52_method_69_code, exceptionTable := #[], attributes := #[] }
def k10m12 : Method := { name := "newString", desc := "([BII)Ljava/lang/String;", sig := { parameters := [(.array .byte), .int, .int], returnType := some (.object "java/lang/String") }, accessFlags := 9, code := some k10c12 }
def k10c13 : Code := { maxStack := 2, maxLocals := 2, code := jdk_52_method_83_code, exceptionTable := #[], attributes := #[] }
def k10m13 : Method := { name := "charAt", desc := "([BI)C", sig := { parameters := [(.array .byte), .int], returnType := some .char }, accessFlags := 9, code := some k10c13 }
def k10c14 : Code := { maxStack := 2, maxLocals := 2, code := jdk_52_method_91_code, exceptionTable := #[], attributes := #[] }
def k10m14 : Method := { name := "checkIndex", desc := "(I[B)V", sig := { parameters := [.int, (.array .byte)], returnType := none }, accessFlags := 9, code := some k10c14 }
def k10c15 : Code := { maxStack := 3, maxLocals := 3, code := jdk_52_method_94_code, exceptionTable := #[], attributes := #[] }
def k10m15 : Method := { name := "checkBoundsOffCount", desc := "(II[B)V", sig := { parameters := [.int, .int, (.array .byte)], returnType := none }, accessFlags := 9, code := some k10c15 }
/-- java/lang/StringUTF16 -/
def k10 : Class := { plain "java/lang/StringUTF16" (some 0) with
  accessFlags := 48
  interfaces := #[]
  cf := some (fileOf pool10 12 #[.nestMembers #[627, 629, 369]] #[{ accessFlags := 0, nameIndex := 9, descriptorIndex := 10, attributes := #[] }, { accessFlags := 9, nameIndex := 109, descriptorIndex := 110, attributes := #[] }, { accessFlags := 9, nameIndex := 15, descriptorIndex := 16, attributes := #[] }, { accessFlags := 8, nameIndex := 113, descriptorIndex := 114, attributes := #[] }, { accessFlags := 8, nameIndex := 73, descriptorIndex := 74, attributes := #[] }, { accessFlags := 9, nameIndex := 50, descriptorIndex := 51, attributes := #[] }, { accessFlags := 9, nameIndex := 121, descriptorIndex := 122, attributes := #[] }, { accessFlags := 8, nameIndex := 261, descriptorIndex := 262, attributes := #[] }, { accessFlags := 9, nameIndex := 117, descriptorIndex := 122, attributes := #[] }, { accessFlags := 9, nameIndex := 117, descriptorIndex := 131, attributes := #[] }, { accessFlags := 9, nameIndex := 117, descriptorIndex := 118, attributes := #[] }, { accessFlags := 9, nameIndex := 117, descriptorIndex := 125, attributes := #[] }, { accessFlags := 9, nameIndex := 327, descriptorIndex := 328, attributes := #[] }, { accessFlags := 9, nameIndex := 392, descriptorIndex := 74, attributes := #[] }, { accessFlags := 9, nameIndex := 69, descriptorIndex := 70, attributes := #[] }, { accessFlags := 9, nameIndex := 175, descriptorIndex := 99, attributes := #[] }] 48 6 #[] #[{ accessFlags := 26, nameIndex := 61, descriptorIndex := 62, attributes := #[] }, { accessFlags := 26, nameIndex := 65, descriptorIndex := 62, attributes := #[] }, { accessFlags := 24, nameIndex := 430, descriptorIndex := 62, attributes := #[] }, { accessFlags := 4120, nameIndex := 46, descriptorIndex := 47, attributes := #[] }])
  fields := #[{ name := "HI_BYTE_SHIFT", type := .int, accessFlags := 26, slot := 0, constantValue := 0 }, { name := "LO_BYTE_SHIFT", type := .int, accessFlags := 26, slot := 1, constantValue := 0 }, { name := "MAX_LENGTH", type := .int, accessFlags := 24, slot := 2, constantValue := 0 }, { name := "$assertionsDisabled", type := .boolean, accessFlags := 4120, slot := 3, constantValue := 0 }]
  methods := #[k10m0, k10m1, k10m2, k10m3, k10m4, k10m5, k10m6, k10m7, k10m8, k10m9, k10m10, k10m11, k10m12, k10m13, k10m14, k10m15]
  instanceTypes := #[]
  staticTypes := #[.int, .int, .int, .boolean]
  resolved := Array.replicate 635 none
  statics := some 2 }

def pool11 : Array CpInfo := pool [(1, .class_ 2), (0, u "java/lang/String"), (1, .class_ 6), (1, u "java/lang/Object"), (0, u "<init>"), (0, u "()V"), (0, .methodref 1 10), (0, .nameAndType 11 12), (0, u "checkIndex"), (0, u "(II)V"), (1, .class_ 16), (1, u "java/lang/StringLatin1"), (36, u "([BI)C"), (58, .methodref 1 113), (0, .nameAndType 7 114), (0, u "([BB)V"), (6, u "$assertionsDisabled"), (0, u "Z"), (8, .class_ 133), (1, u "java/util/Arrays"), (17, .string 152), (0, u ""), (43, u "newString"), (0, u "([BII)Ljava/lang/String;"), (23, .class_ 223), (1, u "java/lang/StringLatin1$LinesSpliterator"), (8, .methodref 131 233), (0, .nameAndType 234 235), (0, u "copyOfRange"), (0, u "([BII)[B"), (16, u "charAt"), (137, .class_ 391), (0, u "java/lang/StringLatin1$CharsSpliterator")] 3

def k11m0 : Method := { name := "<init>", desc := "()V", sig := { parameters := [], returnType := none }, accessFlags := 0, code := none }
def k11c1 : Code := { maxStack := 2, maxLocals := 2, code := jdk_43_method_2_code, exceptionTable := #[], attributes := #[] }
def k11m1 : Method := { name := "charAt", desc := "([BI)C", sig := { parameters := [(.array .byte), .int], returnType := some .char }, accessFlags := 9, code := some k11c1 }
def k11c2 : Code := { maxStack := 6, maxLocals := 3, code := jdk_43_method_47_code, exceptionTable := #[], attributes := #[] }
def k11m2 : Method := { name := "newString", desc := "([BII)Ljava/lang/String;", sig := { parameters := [(.array .byte), .int, .int], returnType := some (.object "java/lang/String") }, accessFlags := 9, code := some k11c2 }
/-- java/lang/StringLatin1 -/
def k11 : Class := { plain "java/lang/StringLatin1" (some 0) with
  accessFlags := 48
  interfaces := #[]
  cf := some (fileOf pool11 14 #[.nestMembers #[390, 221]] #[{ accessFlags := 0, nameIndex := 7, descriptorIndex := 8, attributes := #[] }, { accessFlags := 9, nameIndex := 252, descriptorIndex := 53, attributes := #[] }, { accessFlags := 9, nameIndex := 196, descriptorIndex := 197, attributes := #[] }] 48 4 #[] #[{ accessFlags := 4120, nameIndex := 121, descriptorIndex := 122, attributes := #[] }])
  fields := #[{ name := "$assertionsDisabled", type := .boolean, accessFlags := 4120, slot := 0, constantValue := 0 }]
  methods := #[k11m0, k11m1, k11m2]
  instanceTypes := #[]
  staticTypes := #[.boolean]
  resolved := Array.replicate 395 none
  statics := none }

def pool12 : Array CpInfo := pool [(2, .class_ 4), (1, u "java/lang/Object"), (0, u "<init>"), (0, u "()V"), (7, .class_ 16), (1, u "java/util/Arrays"), (57, .class_ 76), (1, u "java/util/Arrays$NaturalOrder"), (36, .class_ 115), (1, u "java/util/Arrays$LegacyMergeSort"), (1, u "Z"), (21, u "copyOfRange"), (10, .methodref 151 152), (0, .class_ 153), (0, .nameAndType 154 155), (0, u "java/lang/System"), (0, u "arraycopy"), (0, u "(Ljava/lang/Object;ILjava/lang/Object;II)V"), (148, .methodref 305 306), (0, .class_ 307), (0, .nameAndType 308 309), (0, u "java/lang/Math"), (0, u "min"), (0, u "(II)I"), (29, .methodref 14 340), (0, .nameAndType 341 342), (0, u "copyOfRangeByte"), (0, u "([BII)[B"), (0, .methodref 14 344), (0, .nameAndType 345 346), (0, u "checkLength"), (0, u "(II)V"), (28, .class_ 376), (0, u "java/util/Arrays$ArrayList"), (68, u "$assertionsDisabled"), (269, u "MIN_ARRAY_SORT_GRAN"), (0, u "I"), (2, u "INSERTIONSORT_THRESHOLD"), (255, .class_ 976), (0, u "java/util/Arrays$ArrayItr")] 52

def k12m0 : Method := { name := "<init>", desc := "()V", sig := { parameters := [], returnType := none }, accessFlags := 2, code := none }
def k12c1 : Code := { maxStack := 4, maxLocals := 2, code := jdk_65_method_131_code, exceptionTable := #[], attributes := #[] }
def k12m1 : Method := { name := "checkLength", desc := "(II)V", sig := { parameters := [.int, .int], returnType := none }, accessFlags := 10, code := some k12c1 }
def k12c2 : Code := { maxStack := 3, maxLocals := 3, code := jdk_65_method_132_code, exceptionTable := #[], attributes := #[] }
def k12m2 : Method := { name := "copyOfRange", desc := "([BII)[B", sig := { parameters := [(.array .byte), .int, .int], returnType := some (.array .byte) }, accessFlags := 9, code := some k12c2 }
def k12c3 : Code := { maxStack := 6, maxLocals := 5, code := jdk_65_method_133_code, exceptionTable := #[], attributes := #[] }
def k12m3 : Method := { name := "copyOfRangeByte", desc := "([BII)[B", sig := { parameters := [(.array .byte), .int, .int], returnType := some (.array .byte) }, accessFlags := 10, code := some k12c3 }
/-- java/util/Arrays -/
def k12 : Class := { plain "java/util/Arrays" (some 0) with
  accessFlags := 49
  interfaces := #[]
  cf := some (fileOf pool12 14 #[.nestMembers #[975, 375, 113, 74]] #[{ accessFlags := 2, nameIndex := 5, descriptorIndex := 6, attributes := #[] }, { accessFlags := 10, nameIndex := 345, descriptorIndex := 346, attributes := #[] }, { accessFlags := 9, nameIndex := 139, descriptorIndex := 342, attributes := #[] }, { accessFlags := 10, nameIndex := 341, descriptorIndex := 342, attributes := #[] }] 49 2 #[] #[{ accessFlags := 26, nameIndex := 715, descriptorIndex := 716, attributes := #[] }, { accessFlags := 26, nameIndex := 719, descriptorIndex := 716, attributes := #[] }, { accessFlags := 4120, nameIndex := 445, descriptorIndex := 117, attributes := #[] }])
  fields := #[{ name := "MIN_ARRAY_SORT_GRAN", type := .int, accessFlags := 26, slot := 0, constantValue := 0 }, { name := "INSERTIONSORT_THRESHOLD", type := .int, accessFlags := 26, slot := 1, constantValue := 0 }, { name := "$assertionsDisabled", type := .boolean, accessFlags := 4120, slot := 2, constantValue := 0 }]
  methods := #[k12m0, k12m1, k12m2, k12m3]
  instanceTypes := #[]
  staticTypes := #[.int, .int, .boolean]
  resolved := Array.replicate 1029 none
  statics := none }

def pool13 : Array CpInfo := pool [(1, .class_ 2), (0, u "java/lang/Math"), (1, .class_ 6), (1, u "java/lang/Object"), (0, u "<init>"), (0, u "()V"), (89, .class_ 100), (1, u "java/lang/Math$RandomNumberGeneratorHolder"), (71, u "negativeZeroFloatBits"), (0, u "J"), (2, u "negativeZeroDoubleBits"), (24, u "min"), (43, u "$assertionsDisabled"), (0, u "Z"), (88, u "(II)I"), (2, u "twoToTheDoubleScaleDown"), (0, u "D"), (4, u "twoToTheDoubleScaleUp"), (9, u "E"), (3, u "PI"), (2, u "TAU"), (2, u "DEGREES_TO_RADIANS"), (0, u "RADIANS_TO_DEGREES")] 94

def k13m0 : Method := { name := "<init>", desc := "()V", sig := { parameters := [], returnType := none }, accessFlags := 2, code := none }
def k13c1 : Code := { maxStack := 2, maxLocals := 2, code := jdk_29_method_69_code, exceptionTable := #[], attributes := #[] }
def k13m1 : Method := { name := "min", desc := "(II)I", sig := { parameters := [.int, .int], returnType := some .int }, accessFlags := 9, code := some k13c1 }
/-- java/lang/Math -/
def k13 : Class := { plain "java/lang/Math" (some 0) with
  accessFlags := 49
  interfaces := #[]
  cf := some (fileOf pool13 1 #[.nestMembers #[98]] #[{ accessFlags := 2, nameIndex := 7, descriptorIndex := 8, attributes := #[] }, { accessFlags := 9, nameIndex := 201, descriptorIndex := 335, attributes := #[] }] 49 4 #[] #[{ accessFlags := 25, nameIndex := 354, descriptorIndex := 339, attributes := #[] }, { accessFlags := 25, nameIndex := 358, descriptorIndex := 339, attributes := #[] }, { accessFlags := 25, nameIndex := 361, descriptorIndex := 339, attributes := #[] }, { accessFlags := 26, nameIndex := 364, descriptorIndex := 339, attributes := #[] }, { accessFlags := 26, nameIndex := 365, descriptorIndex := 339, attributes := #[] }, { accessFlags := 26, nameIndex := 172, descriptorIndex := 173, attributes := #[] }, { accessFlags := 26, nameIndex := 176, descriptorIndex := 173, attributes := #[] }, { accessFlags := 8, nameIndex := 344, descriptorIndex := 339, attributes := #[] }, { accessFlags := 8, nameIndex := 338, descriptorIndex := 339, attributes := #[] }, { accessFlags := 4120, nameIndex := 245, descriptorIndex := 246, attributes := #[] }])
  fields := #[{ name := "E", type := .double, accessFlags := 25, slot := 0, constantValue := 0 }, { name := "PI", type := .double, accessFlags := 25, slot := 1, constantValue := 0 }, { name := "TAU", type := .double, accessFlags := 25, slot := 2, constantValue := 0 }, { name := "DEGREES_TO_RADIANS", type := .double, accessFlags := 26, slot := 3, constantValue := 0 }, { name := "RADIANS_TO_DEGREES", type := .double, accessFlags := 26, slot := 4, constantValue := 0 }, { name := "negativeZeroFloatBits", type := .long, accessFlags := 26, slot := 5, constantValue := 0 }, { name := "negativeZeroDoubleBits", type := .long, accessFlags := 26, slot := 6, constantValue := 0 }, { name := "twoToTheDoubleScaleUp", type := .double, accessFlags := 8, slot := 7, constantValue := 0 }, { name := "twoToTheDoubleScaleDown", type := .double, accessFlags := 8, slot := 8, constantValue := 0 }, { name := "$assertionsDisabled", type := .boolean, accessFlags := 4120, slot := 9, constantValue := 0 }]
  methods := #[k13m0, k13m1]
  instanceTypes := #[]
  staticTypes := #[.double, .double, .double, .double, .double, .long, .long, .double, .double, .boolean]
  resolved := Array.replicate 460 none
  statics := none }

def pool14 : Array CpInfo := pool [(2, .class_ 4), (1, u "java/lang/Object"), (0, u "<init>"), (0, u "()V"), (1, .class_ 10), (1, u "java/lang/System"), (0, u "allowSecurityManager"), (0, u "I"), (16, u "cons"), (0, u "Ljava/io/Console;"), (77, .class_ 110), (1, u "java/lang/System$CallersHolder"), (43, u "initialErrStream"), (0, u "Ljava/io/PrintStream;"), (19, u "security"), (0, u "Ljava/lang/SecurityManager;"), (31, .class_ 209), (0, u "java/lang/System$1"), (7, u "props"), (0, u "Ljava/util/Properties;"), (2, u "lineSeparator"), (0, u "Ljava/lang/String;"), (96, .class_ 321), (1, u "java/lang/System$LoggerFinder"), (5, .class_ 328), (0, u "java/lang/System$Logger"), (67, u "err"), (2, u "out"), (91, u "notSupportedJnuEncoding"), (15, u "in"), (17, u "initialIn"), (0, u "Ljava/io/InputStream;"), (35, u "bootLayer"), (0, u "Ljava/lang/ModuleLayer;"), (99, .class_ 664), (0, u "java/lang/System$2"), (9, u "NEVER"), (2, u "MAYBE"), (49, u "arraycopy"), (0, u "(Ljava/lang/Object;ILjava/lang/Object;II)V"), (72, .class_ 802), (0, u "java/lang/System$Logger$Level")] 31

def k14m0 : Method := { name := "<init>", desc := "()V", sig := { parameters := [], returnType := none }, accessFlags := 2, code := none }
def k14m1 : Method := { name := "arraycopy", desc := "(Ljava/lang/Object;ILjava/lang/Object;II)V", sig := { parameters := [(.object "java/lang/Object"), .int, (.object "java/lang/Object"), .int, .int], returnType := none }, accessFlags := 265, code := none }
/-- java/lang/System -/
def k14 : Class := { plain "java/lang/System" (some 0) with
  accessFlags := 49
  interfaces := #[]
  cf := some (fileOf pool14 8 #[.nestMembers #[319, 327, 801, 108, 663, 208]] #[{ accessFlags := 2, nameIndex := 5, descriptorIndex := 6, attributes := #[] }, { accessFlags := 265, nameIndex := 727, descriptorIndex := 728, attributes := #[] }] 49 2 #[] #[{ accessFlags := 25, nameIndex := 507, descriptorIndex := 526, attributes := #[] }, { accessFlags := 25, nameIndex := 399, descriptorIndex := 155, attributes := #[] }, { accessFlags := 25, nameIndex := 396, descriptorIndex := 155, attributes := #[] }, { accessFlags := 10, nameIndex := 525, descriptorIndex := 526, attributes := #[] }, { accessFlags := 26, nameIndex := 674, descriptorIndex := 12, attributes := #[] }, { accessFlags := 26, nameIndex := 677, descriptorIndex := 12, attributes := #[] }, { accessFlags := 10, nameIndex := 11, descriptorIndex := 12, attributes := #[] }, { accessFlags := 74, nameIndex := 175, descriptorIndex := 176, attributes := #[] }, { accessFlags := 10, nameIndex := 491, descriptorIndex := 222, attributes := #[] }, { accessFlags := 74, nameIndex := 29, descriptorIndex := 30, attributes := #[] }, { accessFlags := 74, nameIndex := 154, descriptorIndex := 155, attributes := #[] }, { accessFlags := 10, nameIndex := 217, descriptorIndex := 218, attributes := #[] }, { accessFlags := 10, nameIndex := 221, descriptorIndex := 222, attributes := #[] }, { accessFlags := 8, nameIndex := 562, descriptorIndex := 563, attributes := #[] }])
  fields := #[{ name := "in", type := (.object "java/io/InputStream"), accessFlags := 25, slot := 0, constantValue := 0 }, { name := "out", type := (.object "java/io/PrintStream"), accessFlags := 25, slot := 1, constantValue := 0 }, { name := "err", type := (.object "java/io/PrintStream"), accessFlags := 25, slot := 2, constantValue := 0 }, { name := "initialIn", type := (.object "java/io/InputStream"), accessFlags := 10, slot := 3, constantValue := 0 }, { name := "NEVER", type := .int, accessFlags := 26, slot := 4, constantValue := 0 }, { name := "MAYBE", type := .int, accessFlags := 26, slot := 5, constantValue := 0 }, { name := "allowSecurityManager", type := .int, accessFlags := 10, slot := 6, constantValue := 0 }, { name := "security", type := (.object "java/lang/SecurityManager"), accessFlags := 74, slot := 7, constantValue := 0 }, { name := "notSupportedJnuEncoding", type := (.object "java/lang/String"), accessFlags := 10, slot := 8, constantValue := 0 }, { name := "cons", type := (.object "java/io/Console"), accessFlags := 74, slot := 9, constantValue := 0 }, { name := "initialErrStream", type := (.object "java/io/PrintStream"), accessFlags := 74, slot := 10, constantValue := 0 }, { name := "props", type := (.object "java/util/Properties"), accessFlags := 10, slot := 11, constantValue := 0 }, { name := "lineSeparator", type := (.object "java/lang/String"), accessFlags := 10, slot := 12, constantValue := 0 }, { name := "bootLayer", type := (.object "java/lang/ModuleLayer"), accessFlags := 8, slot := 13, constantValue := 0 }]
  methods := #[k14m0, k14m1]
  instanceTypes := #[]
  staticTypes := #[(.object "java/io/InputStream"), (.object "java/io/PrintStream"), (.object "java/io/PrintStream"), (.object "java/io/InputStream"), .int, .int, .int, (.object "java/lang/SecurityManager"), (.object "java/lang/String"), (.object "java/io/Console"), (.object "java/io/PrintStream"), (.object "java/util/Properties"), (.object "java/lang/String"), (.object "java/lang/ModuleLayer")]
  resolved := Array.replicate 834 none
  statics := none }

def pool15 : Array CpInfo := pool [(9, u "<init>"), (6, .class_ 18), (1, u "java/lang/Object"), (0, u "()V"), (1, .class_ 23), (1, u "jdk/internal/util/ArraysSupport"), (0, u "LOG2_ARRAY_LONG_INDEX_SCALE"), (0, u "I"), (2, u "U"), (0, u "Ljdk/internal/misc/Unsafe;"), (8, u "BIG_ENDIAN"), (0, u "Z"), (8, u "LOG2_BYTE_BIT_SIZE"), (4, u "LOG2_ARRAY_INT_INDEX_SCALE"), (54, u "JLA"), (0, u "Ljdk/internal/access/JavaLangAccess;"), (11, u "LOG2_ARRAY_BOOLEAN_INDEX_SCALE"), (9, u "LOG2_ARRAY_BYTE_INDEX_SCALE"), (5, u "LOG2_ARRAY_CHAR_INDEX_SCALE"), (5, u "LOG2_ARRAY_SHORT_INDEX_SCALE"), (18, u "LOG2_ARRAY_FLOAT_INDEX_SCALE"), (24, u "LOG2_ARRAY_DOUBLE_INDEX_SCALE"), (89, u "T_BOOLEAN"), (2, u "T_CHAR"), (1, u "T_FLOAT"), (1, u "T_DOUBLE"), (1, u "T_BYTE"), (1, u "T_SHORT"), (1, u "T_INT"), (1, u "T_LONG"), (1, u "SOFT_MAX_ARRAY_LENGTH")] 83

def k15m0 : Method := { name := "<init>", desc := "()V", sig := { parameters := [], returnType := none }, accessFlags := 2, code := none }
/-- jdk/internal/util/ArraysSupport -/
def k15 : Class := { plain "jdk/internal/util/ArraysSupport" (some 0) with
  accessFlags := 33
  interfaces := #[]
  cf := some (fileOf pool15 21 #[] #[{ accessFlags := 2, nameIndex := 9, descriptorIndex := 19, attributes := #[] }] 33 16 #[] #[{ accessFlags := 24, nameIndex := 28, descriptorIndex := 29, attributes := #[] }, { accessFlags := 26, nameIndex := 38, descriptorIndex := 39, attributes := #[] }, { accessFlags := 25, nameIndex := 121, descriptorIndex := 25, attributes := #[] }, { accessFlags := 25, nameIndex := 131, descriptorIndex := 25, attributes := #[] }, { accessFlags := 25, nameIndex := 137, descriptorIndex := 25, attributes := #[] }, { accessFlags := 25, nameIndex := 143, descriptorIndex := 25, attributes := #[] }, { accessFlags := 25, nameIndex := 53, descriptorIndex := 25, attributes := #[] }, { accessFlags := 25, nameIndex := 24, descriptorIndex := 25, attributes := #[] }, { accessFlags := 25, nameIndex := 162, descriptorIndex := 25, attributes := #[] }, { accessFlags := 25, nameIndex := 187, descriptorIndex := 25, attributes := #[] }, { accessFlags := 26, nameIndex := 48, descriptorIndex := 25, attributes := #[] }, { accessFlags := 25, nameIndex := 277, descriptorIndex := 25, attributes := #[] }, { accessFlags := 25, nameIndex := 280, descriptorIndex := 25, attributes := #[] }, { accessFlags := 25, nameIndex := 282, descriptorIndex := 25, attributes := #[] }, { accessFlags := 25, nameIndex := 284, descriptorIndex := 25, attributes := #[] }, { accessFlags := 25, nameIndex := 286, descriptorIndex := 25, attributes := #[] }, { accessFlags := 25, nameIndex := 288, descriptorIndex := 25, attributes := #[] }, { accessFlags := 25, nameIndex := 290, descriptorIndex := 25, attributes := #[] }, { accessFlags := 25, nameIndex := 292, descriptorIndex := 25, attributes := #[] }, { accessFlags := 26, nameIndex := 108, descriptorIndex := 109, attributes := #[] }, { accessFlags := 25, nameIndex := 294, descriptorIndex := 25, attributes := #[] }])
  fields := #[{ name := "U", type := (.object "jdk/internal/misc/Unsafe"), accessFlags := 24, slot := 0, constantValue := 0 }, { name := "BIG_ENDIAN", type := .boolean, accessFlags := 26, slot := 1, constantValue := 0 }, { name := "LOG2_ARRAY_BOOLEAN_INDEX_SCALE", type := .int, accessFlags := 25, slot := 2, constantValue := 0 }, { name := "LOG2_ARRAY_BYTE_INDEX_SCALE", type := .int, accessFlags := 25, slot := 3, constantValue := 0 }, { name := "LOG2_ARRAY_CHAR_INDEX_SCALE", type := .int, accessFlags := 25, slot := 4, constantValue := 0 }, { name := "LOG2_ARRAY_SHORT_INDEX_SCALE", type := .int, accessFlags := 25, slot := 5, constantValue := 0 }, { name := "LOG2_ARRAY_INT_INDEX_SCALE", type := .int, accessFlags := 25, slot := 6, constantValue := 0 }, { name := "LOG2_ARRAY_LONG_INDEX_SCALE", type := .int, accessFlags := 25, slot := 7, constantValue := 0 }, { name := "LOG2_ARRAY_FLOAT_INDEX_SCALE", type := .int, accessFlags := 25, slot := 8, constantValue := 0 }, { name := "LOG2_ARRAY_DOUBLE_INDEX_SCALE", type := .int, accessFlags := 25, slot := 9, constantValue := 0 }, { name := "LOG2_BYTE_BIT_SIZE", type := .int, accessFlags := 26, slot := 10, constantValue := 0 }, { name := "T_BOOLEAN", type := .int, accessFlags := 25, slot := 11, constantValue := 0 }, { name := "T_CHAR", type := .int, accessFlags := 25, slot := 12, constantValue := 0 }, { name := "T_FLOAT", type := .int, accessFlags := 25, slot := 13, constantValue := 0 }, { name := "T_DOUBLE", type := .int, accessFlags := 25, slot := 14, constantValue := 0 }, { name := "T_BYTE", type := .int, accessFlags := 25, slot := 15, constantValue := 0 }, { name := "T_SHORT", type := .int, accessFlags := 25, slot := 16, constantValue := 0 }, { name := "T_INT", type := .int, accessFlags := 25, slot := 17, constantValue := 0 }, { name := "T_LONG", type := .int, accessFlags := 25, slot := 18, constantValue := 0 }, { name := "JLA", type := (.object "jdk/internal/access/JavaLangAccess"), accessFlags := 26, slot := 19, constantValue := 0 }, { name := "SOFT_MAX_ARRAY_LENGTH", type := .int, accessFlags := 25, slot := 20, constantValue := 0 }]
  methods := #[k15m0]
  instanceTypes := #[]
  staticTypes := #[(.object "jdk/internal/misc/Unsafe"), .boolean, .int, .int, .int, .int, .int, .int, .int, .int, .int, .int, .int, .int, .int, .int, .int, .int, .int, (.object "jdk/internal/access/JavaLangAccess"), .int]
  resolved := Array.replicate 378 none
  statics := none }

def pool16 : Array CpInfo := pool [(1, u "java/lang/Cloneable"), (0, .class_ 1), (0, u "java/lang/Object"), (0, .class_ 3)] 3

/-- java/lang/Cloneable -/
def k16 : Class := { plain "java/lang/Cloneable" (some 0) with
  accessFlags := 1537
  interfaces := #[]
  cf := some (fileOf pool16 2 #[] #[] 1537 4 #[] #[])
  fields := #[]
  methods := #[]
  instanceTypes := #[]
  staticTypes := #[]
  resolved := Array.replicate 8 none
  statics := none }

/-- the primitive byte -/
def k17 : Class := { plain "byte" none with kind := .primitive 'B', accessFlags := 0x411 }
/-- [B -/
def k18 : Class := { plain "[B" (some 0) with kind := .array 17 .byte, interfaces := #[16, 2], accessFlags := 1041 }

/-- the primitive char -/
def k19 : Class := { plain "char" none with kind := .primitive 'C', accessFlags := 0x411 }
/-- [C -/
def k20 : Class := { plain "[C" (some 0) with kind := .array 19 .char, interfaces := #[16, 2], accessFlags := 1041 }

/-- the primitive int -/
def k21 : Class := { plain "int" none with kind := .primitive 'I', accessFlags := 0x411 }
/-- [I -/
def k22 : Class := { plain "[I" (some 0) with kind := .array 21 .int, interfaces := #[16, 2], accessFlags := 1041 }

def heap : Heap := #[{ cls := 7, slots := #[.long 0, .int 1, .null, .int 0, .null, .int 0, .int 0], vm := .statics 7 },
  { cls := 9, slots := #[.null, .null, .null], vm := .statics 9 },
  { cls := 10, slots := #[.int 0, .int 8, .int 0, .int 1], vm := .statics 10 }]
def classes : Array Class := #[k0, k1, k2, k3, k4, k5, k6, k7, k8, k9, k10, k11, k12, k13, k14, k15, k16, k17, k18, k19, k20, k21, k22]
def interned : List (Array UInt16 × Addr) := []
def slotsUsed : Nat := 14
def theMethod : MethodId := ⟨1, 1⟩
def args0 : Array Value := #[.int 0, .int 0, .int 0, .int 0, .int 0, .int 0]
def aboutOver (below : List Frame) : State where
  vm := { classes := classes, interned := interned.toArray }
  heap := heap
  slotsUsed := slotsUsed
  threads := #[{ frames := .invoking theMethod args0 :: below }]
def below0 : List Frame := [.native { method := ⟨0, 0⟩, args := #[] }]
def about1 : State := aboutOver below0
def p0 : Program := .bare "" "" ""
def e0 : Env := launch0.env 0 0 0
theorem w_frames : about1.frames = Frame.invoking theMethod args0 :: below0 := rfl
set_option maxRecDepth 65536 in
theorem w_args : argsFit about1.vm theMethod args0 = true := by decide +kernel
set_option maxRecDepth 65536 in
theorem w_heap : heapFits about1 = true := by decide +kernel
set_option maxRecDepth 65536 in
theorem w_runnable : about1.curStatus? = some .runnable := by decide +kernel
set_option maxRecDepth 65536 in
theorem w_alone : about1.alone = true := by decide +kernel
set_option maxRecDepth 65536 in
theorem w_named : about1.methodNamed? x = some theMethod := by decide +kernel
set_option maxRecDepth 65536 in
theorem w_hears : about1.hears theMethod below0 = true := by decide +kernel
set_option maxRecDepth 65536 in
theorem w_ripe : about1.ripe theMethod args0 below0 = true := by decide +kernel
theorem w_running : about1.status = .running := rfl
set_option maxRecDepth 65536 in
theorem w_room : about1.hasRoom e0.platform room_1 = true :=
  launch0.hasRoom_least _ room_1 (by decide +kernel) (by decide +kernel) (by decide +kernel) (by decide +kernel) (by decide +kernel) (by decide +kernel)
theorem allAtoms_all (ts : List Jvm.Cond) (a : Array Jvm.Value) (st : Jvm.State) : (allAtoms ts).before a st = ts.all (fun c => c.before a st) := by
  induction ts with
  | nil => rfl
  | cons c t ih =>
    show (Jvm.Cond.and c (allAtoms t)).before a st = _
    rw [Jvm.Cond.before_and, ih, List.all_cons]
def words1 : List Jvm.Cond := Jvm.Cond.code x code maxLocals ret :: tables_1
/-- a 'code' word, met by the world's own term for the bytes: nothing is compared byte by byte -/
theorem code_word {y : MethodName} {bytes : ByteArray} {mx : Nat} {rt : Option FieldType} {a : Array Value} {s : State} {m : MethodId} {meth : Method} {c : Code} (h1 : s.methodNamed? y = some m) (h2 : s.vm.method? m = some meth) (h3 : meth.code = some c) (h4 : c.code = bytes)
    (h5 : (c.maxLocals == mx && c.exceptionTable.isEmpty && decide (c.maxStack ≤ mostOperands) && decide (meth.sig.returnType = rt) && !meth.locks && decide (parseMethodDescriptor y.desc = some meth.sig)) = true) : (Jvm.Cond.code y bytes mx rt).before a s = true := by
  simp only [Bool.and_eq_true, beq_iff_eq, Bool.not_eq_true', decide_eq_true_eq] at h5
  obtain ⟨⟨⟨⟨⟨g1, g2⟩, g3⟩, g4⟩, g5⟩, g6⟩ := h5
  simp [Cond.before, Cond.holds, Cond.value, h1, h2, h3, h4, g1, g2, g3, g4, g5, g6]
def isCode : Jvm.Cond → Bool
  | .code _ _ _ _ => true
  | _ => false
theorem all_split {L : List Jvm.Cond} {P : Jvm.Cond → Bool} (h1 : L.all (fun c => isCode c || P c) = true) (h2 : ∀ c ∈ L.filter isCode, P c = true) : L.all P = true := by
  refine List.all_eq_true.mpr fun c hc => ?_
  have h := List.all_eq_true.mp h1 c hc
  rcases Bool.eq_false_or_eq_true (isCode c) with hi | hi
  · exact h2 c (List.mem_filter.mpr ⟨hc, hi⟩)
  · simpa [hi] using h
set_option maxRecDepth 65536 in
theorem w_c0 : (Jvm.Cond.code x code maxLocals ret).before args0 about1 = true := code_word (m := ⟨1, 1⟩) (meth := k1m1) (c := k1c1) (by decide +kernel) rfl rfl rfl (by decide +kernel)
set_option maxRecDepth 65536 in
theorem w_c1 : (Jvm.Cond.code ({ cls := "com/example/linkvouch/linkvouch/AttributeValueTrimmedPinLaw", name := "pick", desc := "(I)C" } : Jvm.MethodName) method_6_code (2 : Nat) (Option.some Jvm.ClassFile.FieldType.char)).before args0 about1 = true := code_word (m := ⟨1, 5⟩) (meth := k1m5) (c := k1c5) (by decide +kernel) rfl rfl rfl (by decide +kernel)
set_option maxRecDepth 65536 in
theorem w_c2 : (Jvm.Cond.code ({ cls := "com/example/linkvouch/linkvouch/AttributeValueTrimmedPinLaw", name := "make", desc := "(ICCCCC)Ljava/lang/String;" } : Jvm.MethodName) method_7_code (6 : Nat) (Option.some (Jvm.ClassFile.FieldType.object "java/lang/String"))).before args0 about1 = true := code_word (m := ⟨1, 6⟩) (meth := k1m6) (c := k1c6) (by decide +kernel) rfl rfl rfl (by decide +kernel)
set_option maxRecDepth 65536 in
theorem w_c3 : (Jvm.Cond.code ({ cls := "java/lang/String", name := "<init>", desc := "([C)V" } : Jvm.MethodName) jdk_42_method_3_code (2 : Nat) (Option.none : Option Jvm.ClassFile.FieldType)).before args0 about1 = true := code_word (m := ⟨7, 1⟩) (meth := k7m1) (c := k7c1) (by decide +kernel) rfl rfl rfl (by decide +kernel)
set_option maxRecDepth 65536 in
theorem w_c4 : (Jvm.Cond.code ({ cls := "java/lang/String", name := "<init>", desc := "([CIILjava/lang/Void;)V" } : Jvm.MethodName) jdk_42_method_149_code (6 : Nat) (Option.none : Option Jvm.ClassFile.FieldType)).before args0 about1 = true := code_word (m := ⟨7, 5⟩) (meth := k7m5) (c := k7c5) (by decide +kernel) rfl rfl rfl (by decide +kernel)
set_option maxRecDepth 65536 in
theorem w_c5 : (Jvm.Cond.code ({ cls := "java/lang/Object", name := "<init>", desc := "()V" } : Jvm.MethodName) object_method_1_code (1 : Nat) (Option.none : Option Jvm.ClassFile.FieldType)).before args0 about1 = true := code_word (m := ⟨0, 0⟩) (meth := k0m0) (c := k0c0) (by decide +kernel) rfl rfl rfl (by decide +kernel)
set_option maxRecDepth 65536 in
theorem w_c6 : (Jvm.Cond.code ({ cls := "com/example/linkvouch/linkvouch/AttributeValue", name := "trimmed", desc := "(Ljava/lang/String;)Ljava/lang/String;" } : Jvm.MethodName) prog_2_method_7_code (3 : Nat) (Option.some (Jvm.ClassFile.FieldType.object "java/lang/String"))).before args0 about1 = true := code_word (m := ⟨8, 1⟩) (meth := k8m1) (c := k8c1) (by decide +kernel) rfl rfl rfl (by decide +kernel)
set_option maxRecDepth 65536 in
theorem w_c7 : (Jvm.Cond.code ({ cls := "java/lang/String", name := "length", desc := "()I" } : Jvm.MethodName) jdk_42_method_54_code (1 : Nat) (Option.some Jvm.ClassFile.FieldType.int)).before args0 about1 = true := code_word (m := ⟨7, 2⟩) (meth := k7m2) (c := k7c2) (by decide +kernel) rfl rfl rfl (by decide +kernel)
set_option maxRecDepth 65536 in
theorem w_c8 : (Jvm.Cond.code ({ cls := "java/lang/String", name := "coder", desc := "()B" } : Jvm.MethodName) jdk_42_method_152_code (1 : Nat) (Option.some Jvm.ClassFile.FieldType.byte)).before args0 about1 = true := code_word (m := ⟨7, 7⟩) (meth := k7m7) (c := k7c7) (by decide +kernel) rfl rfl rfl (by decide +kernel)
set_option maxRecDepth 65536 in
theorem w_c9 : (Jvm.Cond.code ({ cls := "java/lang/String", name := "substring", desc := "(II)Ljava/lang/String;" } : Jvm.MethodName) jdk_42_method_92_code (5 : Nat) (Option.some (Jvm.ClassFile.FieldType.object "java/lang/String"))).before args0 about1 = true := code_word (m := ⟨7, 4⟩) (meth := k7m4) (c := k7c4) (by decide +kernel) rfl rfl rfl (by decide +kernel)
set_option maxRecDepth 65536 in
theorem w_c10 : (Jvm.Cond.code ({ cls := "java/lang/String", name := "checkBoundsBeginEnd", desc := "(III)V" } : Jvm.MethodName) jdk_42_method_158_code (3 : Nat) (Option.none : Option Jvm.ClassFile.FieldType)).before args0 about1 = true := code_word (m := ⟨7, 11⟩) (meth := k7m11) (c := k7c11) (by decide +kernel) rfl rfl rfl (by decide +kernel)
set_option maxRecDepth 65536 in
theorem w_c11 : (Jvm.Cond.code ({ cls := "jdk/internal/util/Preconditions", name := "checkFromToIndex", desc := "(IIILjava/util/function/BiFunction;)I" } : Jvm.MethodName) jdk_41_method_12_code (4 : Nat) (Option.some Jvm.ClassFile.FieldType.int)).before args0 about1 = true := code_word (m := ⟨9, 2⟩) (meth := k9m2) (c := k9c2) (by decide +kernel) rfl rfl rfl (by decide +kernel)
set_option maxRecDepth 65536 in
theorem w_c12 : (Jvm.Cond.code ({ cls := "java/lang/StringUTF16", name := "compress", desc := "([CII)[B" } : Jvm.MethodName) jdk_52_method_16_code (6 : Nat) (Option.some (Jvm.ClassFile.FieldType.array Jvm.ClassFile.FieldType.byte))).before args0 about1 = true := code_word (m := ⟨10, 8⟩) (meth := k10m8) (c := k10c8) (by decide +kernel) rfl rfl rfl (by decide +kernel)
set_option maxRecDepth 65536 in
theorem w_c13 : (Jvm.Cond.code ({ cls := "java/lang/StringUTF16", name := "compress", desc := "([CI[BII)I" } : Jvm.MethodName) jdk_52_method_21_code (7 : Nat) (Option.some Jvm.ClassFile.FieldType.int)).before args0 about1 = true := code_word (m := ⟨10, 10⟩) (meth := k10m10) (c := k10c10) (by decide +kernel) rfl rfl rfl (by decide +kernel)
set_option maxRecDepth 65536 in
theorem w_c14 : (Jvm.Cond.code ({ cls := "java/lang/StringUTF16", name := "toBytes", desc := "([CII)[B" } : Jvm.MethodName) jdk_52_method_14_code (5 : Nat) (Option.some (Jvm.ClassFile.FieldType.array Jvm.ClassFile.FieldType.byte))).before args0 about1 = true := code_word (m := ⟨10, 6⟩) (meth := k10m6) (c := k10c6) (by decide +kernel) rfl rfl rfl (by decide +kernel)
set_option maxRecDepth 65536 in
theorem w_c15 : (Jvm.Cond.code ({ cls := "java/lang/StringUTF16", name := "newBytesFor", desc := "(I)[B" } : Jvm.MethodName) jdk_52_method_2_code (1 : Nat) (Option.some (Jvm.ClassFile.FieldType.array Jvm.ClassFile.FieldType.byte))).before args0 about1 = true := code_word (m := ⟨10, 1⟩) (meth := k10m1) (c := k10c1) (by decide +kernel) rfl rfl rfl (by decide +kernel)
set_option maxRecDepth 65536 in
theorem w_c16 : (Jvm.Cond.code ({ cls := "java/lang/StringUTF16", name := "newBytesLength", desc := "(I)I" } : Jvm.MethodName) jdk_52_method_3_code (1 : Nat) (Option.some Jvm.ClassFile.FieldType.int)).before args0 about1 = true := code_word (m := ⟨10, 2⟩) (meth := k10m2) (c := k10c2) (by decide +kernel) rfl rfl rfl (by decide +kernel)
set_option maxRecDepth 65536 in
theorem w_c17 : (Jvm.Cond.code ({ cls := "java/lang/StringUTF16", name := "putChar", desc := "([BII)V" } : Jvm.MethodName) jdk_52_method_4_code (3 : Nat) (Option.none : Option Jvm.ClassFile.FieldType)).before args0 about1 = true := code_word (m := ⟨10, 3⟩) (meth := k10m3) (c := k10c3) (by decide +kernel) rfl rfl rfl (by decide +kernel)
set_option maxRecDepth 65536 in
theorem w_c18 : (Jvm.Cond.code ({ cls := "java/lang/StringUTF16", name := "getChar", desc := "([BI)C" } : Jvm.MethodName) jdk_52_method_5_code (2 : Nat) (Option.some Jvm.ClassFile.FieldType.char)).before args0 about1 = true := code_word (m := ⟨10, 4⟩) (meth := k10m4) (c := k10c4) (by decide +kernel) rfl rfl rfl (by decide +kernel)
set_option maxRecDepth 65536 in
theorem w_c19 : (Jvm.Cond.code ({ cls := "java/lang/StringUTF16", name := "coderFromArrayLen", desc := "([BI)B" } : Jvm.MethodName) jdk_52_method_15_code (2 : Nat) (Option.some Jvm.ClassFile.FieldType.byte)).before args0 about1 = true := code_word (m := ⟨10, 7⟩) (meth := k10m7) (c := k10c7) (by decide +kernel) rfl rfl rfl (by decide +kernel)
set_option maxRecDepth 65536 in
theorem w_c20 : (Jvm.Cond.code ({ cls := "java/lang/String", name := "charAt", desc := "(I)C" } : Jvm.MethodName) jdk_42_method_56_code (2 : Nat) (Option.some Jvm.ClassFile.FieldType.char)).before args0 about1 = true := code_word (m := ⟨7, 3⟩) (meth := k7m3) (c := k7c3) (by decide +kernel) rfl rfl rfl (by decide +kernel)
set_option maxRecDepth 65536 in
theorem w_c21 : (Jvm.Cond.code ({ cls := "java/lang/String", name := "isLatin1", desc := "()Z" } : Jvm.MethodName) jdk_42_method_154_code (1 : Nat) (Option.some Jvm.ClassFile.FieldType.boolean)).before args0 about1 = true := code_word (m := ⟨7, 8⟩) (meth := k7m8) (c := k7c8) (by decide +kernel) rfl rfl rfl (by decide +kernel)
set_option maxRecDepth 65536 in
theorem w_c22 : (Jvm.Cond.code ({ cls := "java/lang/StringUTF16", name := "charAt", desc := "([BI)C" } : Jvm.MethodName) jdk_52_method_83_code (2 : Nat) (Option.some Jvm.ClassFile.FieldType.char)).before args0 about1 = true := code_word (m := ⟨10, 13⟩) (meth := k10m13) (c := k10c13) (by decide +kernel) rfl rfl rfl (by decide +kernel)
set_option maxRecDepth 65536 in
theorem w_c23 : (Jvm.Cond.code ({ cls := "java/lang/StringUTF16", name := "checkIndex", desc := "(I[B)V" } : Jvm.MethodName) jdk_52_method_91_code (2 : Nat) (Option.none : Option Jvm.ClassFile.FieldType)).before args0 about1 = true := code_word (m := ⟨10, 14⟩) (meth := k10m14) (c := k10c14) (by decide +kernel) rfl rfl rfl (by decide +kernel)
set_option maxRecDepth 65536 in
theorem w_c24 : (Jvm.Cond.code ({ cls := "java/lang/StringUTF16", name := "length", desc := "([B)I" } : Jvm.MethodName) jdk_52_method_6_code (1 : Nat) (Option.some Jvm.ClassFile.FieldType.int)).before args0 about1 = true := code_word (m := ⟨10, 5⟩) (meth := k10m5) (c := k10c5) (by decide +kernel) rfl rfl rfl (by decide +kernel)
set_option maxRecDepth 65536 in
theorem w_c25 : (Jvm.Cond.code ({ cls := "java/lang/String", name := "checkIndex", desc := "(II)V" } : Jvm.MethodName) jdk_42_method_155_code (2 : Nat) (Option.none : Option Jvm.ClassFile.FieldType)).before args0 about1 = true := code_word (m := ⟨7, 9⟩) (meth := k7m9) (c := k7c9) (by decide +kernel) rfl rfl rfl (by decide +kernel)
set_option maxRecDepth 65536 in
theorem w_c26 : (Jvm.Cond.code ({ cls := "jdk/internal/util/Preconditions", name := "checkIndex", desc := "(IILjava/util/function/BiFunction;)I" } : Jvm.MethodName) jdk_41_method_11_code (3 : Nat) (Option.some Jvm.ClassFile.FieldType.int)).before args0 about1 = true := code_word (m := ⟨9, 1⟩) (meth := k9m1) (c := k9c1) (by decide +kernel) rfl rfl rfl (by decide +kernel)
set_option maxRecDepth 65536 in
theorem w_c27 : (Jvm.Cond.code ({ cls := "com/example/linkvouch/linkvouch/AttributeValue", name := "isSpace", desc := "(C)Z" } : Jvm.MethodName) prog_2_method_8_code (1 : Nat) (Option.some Jvm.ClassFile.FieldType.boolean)).before args0 about1 = true := code_word (m := ⟨8, 2⟩) (meth := k8m2) (c := k8c2) (by decide +kernel) rfl rfl rfl (by decide +kernel)
set_option maxRecDepth 65536 in
theorem w_c28 : (Jvm.Cond.code ({ cls := "com/example/linkvouch/linkvouch/AttributeValueTrimmedPinLaw", name := "ws", desc := "(C)Z" } : Jvm.MethodName) method_5_code (1 : Nat) (Option.some Jvm.ClassFile.FieldType.boolean)).before args0 about1 = true := code_word (m := ⟨1, 4⟩) (meth := k1m4) (c := k1c4) (by decide +kernel) rfl rfl rfl (by decide +kernel)
set_option maxRecDepth 65536 in
theorem w_c29 : (Jvm.Cond.code ({ cls := "com/example/linkvouch/linkvouch/AttributeValueTrimmedPinLaw", name := "same", desc := "(Ljava/lang/String;IIICCCCC)Z" } : Jvm.MethodName) method_3_code (9 : Nat) (Option.some Jvm.ClassFile.FieldType.boolean)).before args0 about1 = true := code_word (m := ⟨1, 2⟩) (meth := k1m2) (c := k1c2) (by decide +kernel) rfl rfl rfl (by decide +kernel)
set_option maxRecDepth 65536 in
theorem w_c30 : (Jvm.Cond.code ({ cls := "com/example/linkvouch/linkvouch/AttributeValueTrimmedPinLaw", name := "at", desc := "(ICCCCC)C" } : Jvm.MethodName) method_4_code (6 : Nat) (Option.some Jvm.ClassFile.FieldType.char)).before args0 about1 = true := code_word (m := ⟨1, 3⟩) (meth := k1m3) (c := k1c3) (by decide +kernel) rfl rfl rfl (by decide +kernel)
set_option maxRecDepth 65536 in
theorem w_c31 : (Jvm.Cond.code ({ cls := "java/lang/StringLatin1", name := "charAt", desc := "([BI)C" } : Jvm.MethodName) jdk_43_method_2_code (2 : Nat) (Option.some Jvm.ClassFile.FieldType.char)).before args0 about1 = true := code_word (m := ⟨11, 1⟩) (meth := k11m1) (c := k11c1) (by decide +kernel) rfl rfl rfl (by decide +kernel)
set_option maxRecDepth 65536 in
theorem w_c32 : (Jvm.Cond.code ({ cls := "java/lang/StringLatin1", name := "newString", desc := "([BII)Ljava/lang/String;" } : Jvm.MethodName) jdk_43_method_47_code (3 : Nat) (Option.some (Jvm.ClassFile.FieldType.object "java/lang/String"))).before args0 about1 = true := code_word (m := ⟨11, 2⟩) (meth := k11m2) (c := k11c2) (by decide +kernel) rfl rfl rfl (by decide +kernel)
set_option maxRecDepth 65536 in
theorem w_c33 : (Jvm.Cond.code ({ cls := "java/util/Arrays", name := "copyOfRange", desc := "([BII)[B" } : Jvm.MethodName) jdk_65_method_132_code (3 : Nat) (Option.some (Jvm.ClassFile.FieldType.array Jvm.ClassFile.FieldType.byte))).before args0 about1 = true := code_word (m := ⟨12, 2⟩) (meth := k12m2) (c := k12c2) (by decide +kernel) rfl rfl rfl (by decide +kernel)
set_option maxRecDepth 65536 in
theorem w_c34 : (Jvm.Cond.code ({ cls := "java/util/Arrays", name := "copyOfRangeByte", desc := "([BII)[B" } : Jvm.MethodName) jdk_65_method_133_code (5 : Nat) (Option.some (Jvm.ClassFile.FieldType.array Jvm.ClassFile.FieldType.byte))).before args0 about1 = true := code_word (m := ⟨12, 3⟩) (meth := k12m3) (c := k12c3) (by decide +kernel) rfl rfl rfl (by decide +kernel)
set_option maxRecDepth 65536 in
theorem w_c35 : (Jvm.Cond.code ({ cls := "java/util/Arrays", name := "checkLength", desc := "(II)V" } : Jvm.MethodName) jdk_65_method_131_code (2 : Nat) (Option.none : Option Jvm.ClassFile.FieldType)).before args0 about1 = true := code_word (m := ⟨12, 1⟩) (meth := k12m1) (c := k12c1) (by decide +kernel) rfl rfl rfl (by decide +kernel)
set_option maxRecDepth 65536 in
theorem w_c36 : (Jvm.Cond.code ({ cls := "java/lang/Math", name := "min", desc := "(II)I" } : Jvm.MethodName) jdk_29_method_69_code (2 : Nat) (Option.some Jvm.ClassFile.FieldType.int)).before args0 about1 = true := code_word (m := ⟨13, 1⟩) (meth := k13m1) (c := k13c1) (by decide +kernel) rfl rfl rfl (by decide +kernel)
set_option maxRecDepth 65536 in
theorem w_c37 : (Jvm.Cond.code ({ cls := "java/lang/String", name := "<init>", desc := "([BB)V" } : Jvm.MethodName) jdk_42_method_151_code (3 : Nat) (Option.none : Option Jvm.ClassFile.FieldType)).before args0 about1 = true := code_word (m := ⟨7, 6⟩) (meth := k7m6) (c := k7c6) (by decide +kernel) rfl rfl rfl (by decide +kernel)
set_option maxRecDepth 65536 in
theorem w_c38 : (Jvm.Cond.code ({ cls := "java/lang/StringUTF16", name := "newString", desc := "([BII)Ljava/lang/String;" } : Jvm.MethodName) jdk_52_method_69_code (5 : Nat) (Option.some (Jvm.ClassFile.FieldType.object "java/lang/String"))).before args0 about1 = true := code_word (m := ⟨10, 12⟩) (meth := k10m12) (c := k10c12) (by decide +kernel) rfl rfl rfl (by decide +kernel)
set_option maxRecDepth 65536 in
theorem w_c39 : (Jvm.Cond.code ({ cls := "java/lang/StringUTF16", name := "compress", desc := "([BII)[B" } : Jvm.MethodName) jdk_52_method_17_code (6 : Nat) (Option.some (Jvm.ClassFile.FieldType.array Jvm.ClassFile.FieldType.byte))).before args0 about1 = true := code_word (m := ⟨10, 9⟩) (meth := k10m9) (c := k10c9) (by decide +kernel) rfl rfl rfl (by decide +kernel)
set_option maxRecDepth 65536 in
theorem w_c40 : (Jvm.Cond.code ({ cls := "java/lang/StringUTF16", name := "compress", desc := "([BI[BII)I" } : Jvm.MethodName) jdk_52_method_22_code (7 : Nat) (Option.some Jvm.ClassFile.FieldType.int)).before args0 about1 = true := code_word (m := ⟨10, 11⟩) (meth := k10m11) (c := k10c11) (by decide +kernel) rfl rfl rfl (by decide +kernel)
set_option maxRecDepth 65536 in
theorem w_c41 : (Jvm.Cond.code ({ cls := "java/lang/StringUTF16", name := "checkBoundsOffCount", desc := "(II[B)V" } : Jvm.MethodName) jdk_52_method_94_code (3 : Nat) (Option.none : Option Jvm.ClassFile.FieldType)).before args0 about1 = true := code_word (m := ⟨10, 15⟩) (meth := k10m15) (c := k10c15) (by decide +kernel) rfl rfl rfl (by decide +kernel)
set_option maxRecDepth 65536 in
theorem w_c42 : (Jvm.Cond.code ({ cls := "java/lang/String", name := "checkBoundsOffCount", desc := "(III)I" } : Jvm.MethodName) jdk_42_method_157_code (3 : Nat) (Option.some Jvm.ClassFile.FieldType.int)).before args0 about1 = true := code_word (m := ⟨7, 10⟩) (meth := k7m10) (c := k7c10) (by decide +kernel) rfl rfl rfl (by decide +kernel)
set_option maxRecDepth 65536 in
theorem w_c43 : (Jvm.Cond.code ({ cls := "jdk/internal/util/Preconditions", name := "checkFromIndexSize", desc := "(IIILjava/util/function/BiFunction;)I" } : Jvm.MethodName) jdk_41_method_13_code (4 : Nat) (Option.some Jvm.ClassFile.FieldType.int)).before args0 about1 = true := code_word (m := ⟨9, 3⟩) (meth := k9m3) (c := k9c3) (by decide +kernel) rfl rfl rfl (by decide +kernel)
def codes1 : List Jvm.Cond := [Jvm.Cond.code x code maxLocals ret, Jvm.Cond.code ({ cls := "com/example/linkvouch/linkvouch/AttributeValueTrimmedPinLaw", name := "pick", desc := "(I)C" } : Jvm.MethodName) method_6_code (2 : Nat) (Option.some Jvm.ClassFile.FieldType.char), Jvm.Cond.code ({ cls := "com/example/linkvouch/linkvouch/AttributeValueTrimmedPinLaw", name := "make", desc := "(ICCCCC)Ljava/lang/String;" } : Jvm.MethodName) method_7_code (6 : Nat) (Option.some (Jvm.ClassFile.FieldType.object "java/lang/String")), Jvm.Cond.code ({ cls := "java/lang/String", name := "<init>", desc := "([C)V" } : Jvm.MethodName) jdk_42_method_3_code (2 : Nat) (Option.none : Option Jvm.ClassFile.FieldType), Jvm.Cond.code ({ cls := "java/lang/String", name := "<init>", desc := "([CIILjava/lang/Void;)V" } : Jvm.MethodName) jdk_42_method_149_code (6 : Nat) (Option.none : Option Jvm.ClassFile.FieldType), Jvm.Cond.code ({ cls := "java/lang/Object", name := "<init>", desc := "()V" } : Jvm.MethodName) object_method_1_code (1 : Nat) (Option.none : Option Jvm.ClassFile.FieldType), Jvm.Cond.code ({ cls := "com/example/linkvouch/linkvouch/AttributeValue", name := "trimmed", desc := "(Ljava/lang/String;)Ljava/lang/String;" } : Jvm.MethodName) prog_2_method_7_code (3 : Nat) (Option.some (Jvm.ClassFile.FieldType.object "java/lang/String")), Jvm.Cond.code ({ cls := "java/lang/String", name := "length", desc := "()I" } : Jvm.MethodName) jdk_42_method_54_code (1 : Nat) (Option.some Jvm.ClassFile.FieldType.int), Jvm.Cond.code ({ cls := "java/lang/String", name := "coder", desc := "()B" } : Jvm.MethodName) jdk_42_method_152_code (1 : Nat) (Option.some Jvm.ClassFile.FieldType.byte), Jvm.Cond.code ({ cls := "java/lang/String", name := "substring", desc := "(II)Ljava/lang/String;" } : Jvm.MethodName) jdk_42_method_92_code (5 : Nat) (Option.some (Jvm.ClassFile.FieldType.object "java/lang/String")), Jvm.Cond.code ({ cls := "java/lang/String", name := "checkBoundsBeginEnd", desc := "(III)V" } : Jvm.MethodName) jdk_42_method_158_code (3 : Nat) (Option.none : Option Jvm.ClassFile.FieldType), Jvm.Cond.code ({ cls := "jdk/internal/util/Preconditions", name := "checkFromToIndex", desc := "(IIILjava/util/function/BiFunction;)I" } : Jvm.MethodName) jdk_41_method_12_code (4 : Nat) (Option.some Jvm.ClassFile.FieldType.int), Jvm.Cond.code ({ cls := "java/lang/StringUTF16", name := "compress", desc := "([CII)[B" } : Jvm.MethodName) jdk_52_method_16_code (6 : Nat) (Option.some (Jvm.ClassFile.FieldType.array Jvm.ClassFile.FieldType.byte)), Jvm.Cond.code ({ cls := "java/lang/StringUTF16", name := "compress", desc := "([CI[BII)I" } : Jvm.MethodName) jdk_52_method_21_code (7 : Nat) (Option.some Jvm.ClassFile.FieldType.int), Jvm.Cond.code ({ cls := "java/lang/StringUTF16", name := "toBytes", desc := "([CII)[B" } : Jvm.MethodName) jdk_52_method_14_code (5 : Nat) (Option.some (Jvm.ClassFile.FieldType.array Jvm.ClassFile.FieldType.byte)), Jvm.Cond.code ({ cls := "java/lang/StringUTF16", name := "newBytesFor", desc := "(I)[B" } : Jvm.MethodName) jdk_52_method_2_code (1 : Nat) (Option.some (Jvm.ClassFile.FieldType.array Jvm.ClassFile.FieldType.byte)), Jvm.Cond.code ({ cls := "java/lang/StringUTF16", name := "newBytesLength", desc := "(I)I" } : Jvm.MethodName) jdk_52_method_3_code (1 : Nat) (Option.some Jvm.ClassFile.FieldType.int), Jvm.Cond.code ({ cls := "java/lang/StringUTF16", name := "putChar", desc := "([BII)V" } : Jvm.MethodName) jdk_52_method_4_code (3 : Nat) (Option.none : Option Jvm.ClassFile.FieldType), Jvm.Cond.code ({ cls := "java/lang/StringUTF16", name := "getChar", desc := "([BI)C" } : Jvm.MethodName) jdk_52_method_5_code (2 : Nat) (Option.some Jvm.ClassFile.FieldType.char), Jvm.Cond.code ({ cls := "java/lang/StringUTF16", name := "coderFromArrayLen", desc := "([BI)B" } : Jvm.MethodName) jdk_52_method_15_code (2 : Nat) (Option.some Jvm.ClassFile.FieldType.byte), Jvm.Cond.code ({ cls := "java/lang/String", name := "charAt", desc := "(I)C" } : Jvm.MethodName) jdk_42_method_56_code (2 : Nat) (Option.some Jvm.ClassFile.FieldType.char), Jvm.Cond.code ({ cls := "java/lang/String", name := "isLatin1", desc := "()Z" } : Jvm.MethodName) jdk_42_method_154_code (1 : Nat) (Option.some Jvm.ClassFile.FieldType.boolean), Jvm.Cond.code ({ cls := "java/lang/StringUTF16", name := "charAt", desc := "([BI)C" } : Jvm.MethodName) jdk_52_method_83_code (2 : Nat) (Option.some Jvm.ClassFile.FieldType.char), Jvm.Cond.code ({ cls := "java/lang/StringUTF16", name := "checkIndex", desc := "(I[B)V" } : Jvm.MethodName) jdk_52_method_91_code (2 : Nat) (Option.none : Option Jvm.ClassFile.FieldType), Jvm.Cond.code ({ cls := "java/lang/StringUTF16", name := "length", desc := "([B)I" } : Jvm.MethodName) jdk_52_method_6_code (1 : Nat) (Option.some Jvm.ClassFile.FieldType.int), Jvm.Cond.code ({ cls := "java/lang/String", name := "checkIndex", desc := "(II)V" } : Jvm.MethodName) jdk_42_method_155_code (2 : Nat) (Option.none : Option Jvm.ClassFile.FieldType), Jvm.Cond.code ({ cls := "jdk/internal/util/Preconditions", name := "checkIndex", desc := "(IILjava/util/function/BiFunction;)I" } : Jvm.MethodName) jdk_41_method_11_code (3 : Nat) (Option.some Jvm.ClassFile.FieldType.int), Jvm.Cond.code ({ cls := "com/example/linkvouch/linkvouch/AttributeValue", name := "isSpace", desc := "(C)Z" } : Jvm.MethodName) prog_2_method_8_code (1 : Nat) (Option.some Jvm.ClassFile.FieldType.boolean), Jvm.Cond.code ({ cls := "com/example/linkvouch/linkvouch/AttributeValueTrimmedPinLaw", name := "ws", desc := "(C)Z" } : Jvm.MethodName) method_5_code (1 : Nat) (Option.some Jvm.ClassFile.FieldType.boolean), Jvm.Cond.code ({ cls := "com/example/linkvouch/linkvouch/AttributeValueTrimmedPinLaw", name := "same", desc := "(Ljava/lang/String;IIICCCCC)Z" } : Jvm.MethodName) method_3_code (9 : Nat) (Option.some Jvm.ClassFile.FieldType.boolean), Jvm.Cond.code ({ cls := "com/example/linkvouch/linkvouch/AttributeValueTrimmedPinLaw", name := "at", desc := "(ICCCCC)C" } : Jvm.MethodName) method_4_code (6 : Nat) (Option.some Jvm.ClassFile.FieldType.char), Jvm.Cond.code ({ cls := "java/lang/StringLatin1", name := "charAt", desc := "([BI)C" } : Jvm.MethodName) jdk_43_method_2_code (2 : Nat) (Option.some Jvm.ClassFile.FieldType.char), Jvm.Cond.code ({ cls := "java/lang/StringLatin1", name := "newString", desc := "([BII)Ljava/lang/String;" } : Jvm.MethodName) jdk_43_method_47_code (3 : Nat) (Option.some (Jvm.ClassFile.FieldType.object "java/lang/String")), Jvm.Cond.code ({ cls := "java/util/Arrays", name := "copyOfRange", desc := "([BII)[B" } : Jvm.MethodName) jdk_65_method_132_code (3 : Nat) (Option.some (Jvm.ClassFile.FieldType.array Jvm.ClassFile.FieldType.byte)), Jvm.Cond.code ({ cls := "java/util/Arrays", name := "copyOfRangeByte", desc := "([BII)[B" } : Jvm.MethodName) jdk_65_method_133_code (5 : Nat) (Option.some (Jvm.ClassFile.FieldType.array Jvm.ClassFile.FieldType.byte)), Jvm.Cond.code ({ cls := "java/util/Arrays", name := "checkLength", desc := "(II)V" } : Jvm.MethodName) jdk_65_method_131_code (2 : Nat) (Option.none : Option Jvm.ClassFile.FieldType), Jvm.Cond.code ({ cls := "java/lang/Math", name := "min", desc := "(II)I" } : Jvm.MethodName) jdk_29_method_69_code (2 : Nat) (Option.some Jvm.ClassFile.FieldType.int), Jvm.Cond.code ({ cls := "java/lang/String", name := "<init>", desc := "([BB)V" } : Jvm.MethodName) jdk_42_method_151_code (3 : Nat) (Option.none : Option Jvm.ClassFile.FieldType), Jvm.Cond.code ({ cls := "java/lang/StringUTF16", name := "newString", desc := "([BII)Ljava/lang/String;" } : Jvm.MethodName) jdk_52_method_69_code (5 : Nat) (Option.some (Jvm.ClassFile.FieldType.object "java/lang/String")), Jvm.Cond.code ({ cls := "java/lang/StringUTF16", name := "compress", desc := "([BII)[B" } : Jvm.MethodName) jdk_52_method_17_code (6 : Nat) (Option.some (Jvm.ClassFile.FieldType.array Jvm.ClassFile.FieldType.byte)), Jvm.Cond.code ({ cls := "java/lang/StringUTF16", name := "compress", desc := "([BI[BII)I" } : Jvm.MethodName) jdk_52_method_22_code (7 : Nat) (Option.some Jvm.ClassFile.FieldType.int), Jvm.Cond.code ({ cls := "java/lang/StringUTF16", name := "checkBoundsOffCount", desc := "(II[B)V" } : Jvm.MethodName) jdk_52_method_94_code (3 : Nat) (Option.none : Option Jvm.ClassFile.FieldType), Jvm.Cond.code ({ cls := "java/lang/String", name := "checkBoundsOffCount", desc := "(III)I" } : Jvm.MethodName) jdk_42_method_157_code (3 : Nat) (Option.some Jvm.ClassFile.FieldType.int), Jvm.Cond.code ({ cls := "jdk/internal/util/Preconditions", name := "checkFromIndexSize", desc := "(IIILjava/util/function/BiFunction;)I" } : Jvm.MethodName) jdk_41_method_13_code (4 : Nat) (Option.some Jvm.ClassFile.FieldType.int)]
set_option maxRecDepth 65536 in
theorem codes_eq : words1.filter isCode = codes1 := rfl
theorem w_codes : ∀ c ∈ words1.filter isCode, c.before args0 about1 = true := by
  rw [codes_eq]
  intro c hc
  simp only [codes1, List.mem_cons, List.not_mem_nil, or_false] at hc
  rcases hc with rfl | rfl | rfl | rfl | rfl | rfl | rfl | rfl | rfl | rfl | rfl | rfl | rfl | rfl | rfl | rfl | rfl | rfl | rfl | rfl | rfl | rfl | rfl | rfl | rfl | rfl | rfl | rfl | rfl | rfl | rfl | rfl | rfl | rfl | rfl | rfl | rfl | rfl | rfl | rfl | rfl | rfl | rfl | rfl
  · exact w_c0
  · exact w_c1
  · exact w_c2
  · exact w_c3
  · exact w_c4
  · exact w_c5
  · exact w_c6
  · exact w_c7
  · exact w_c8
  · exact w_c9
  · exact w_c10
  · exact w_c11
  · exact w_c12
  · exact w_c13
  · exact w_c14
  · exact w_c15
  · exact w_c16
  · exact w_c17
  · exact w_c18
  · exact w_c19
  · exact w_c20
  · exact w_c21
  · exact w_c22
  · exact w_c23
  · exact w_c24
  · exact w_c25
  · exact w_c26
  · exact w_c27
  · exact w_c28
  · exact w_c29
  · exact w_c30
  · exact w_c31
  · exact w_c32
  · exact w_c33
  · exact w_c34
  · exact w_c35
  · exact w_c36
  · exact w_c37
  · exact w_c38
  · exact w_c39
  · exact w_c40
  · exact w_c41
  · exact w_c42
  · exact w_c43
set_option maxRecDepth 65536 in
theorem w_t1 : (words1.take 24).all (fun c => isCode c || c.before args0 about1) = true := by decide +kernel
set_option maxRecDepth 65536 in
theorem w_t2 : ((words1.drop 24).take 24).all (fun c => isCode c || c.before args0 about1) = true := by decide +kernel
set_option maxRecDepth 65536 in
theorem w_t3 : (((words1.drop 24).drop 24).take 24).all (fun c => isCode c || c.before args0 about1) = true := by decide +kernel
set_option maxRecDepth 65536 in
theorem w_t4 : ((((words1.drop 24).drop 24).drop 24).take 24).all (fun c => isCode c || c.before args0 about1) = true := by decide +kernel
set_option maxRecDepth 65536 in
theorem w_t5 : (((((words1.drop 24).drop 24).drop 24).drop 24).take 24).all (fun c => isCode c || c.before args0 about1) = true := by decide +kernel
set_option maxRecDepth 65536 in
theorem w_t6 : ((((((words1.drop 24).drop 24).drop 24).drop 24).drop 24).take 24).all (fun c => isCode c || c.before args0 about1) = true := by decide +kernel
set_option maxRecDepth 65536 in
theorem w_t7 : (((((((words1.drop 24).drop 24).drop 24).drop 24).drop 24).drop 24).take 24).all (fun c => isCode c || c.before args0 about1) = true := by decide +kernel
set_option maxRecDepth 65536 in
theorem w_t8 : (((((((words1.drop 24).drop 24).drop 24).drop 24).drop 24).drop 24).drop 24).all (fun c => isCode c || c.before args0 about1) = true := by decide +kernel
theorem w_tables : (allAtoms (Jvm.Cond.code x code maxLocals ret :: tables_1)).before args0 about1 = true := by
  rw [allAtoms_all]
  show words1.all (fun c => c.before args0 about1) = true
  refine all_split ?_ w_codes
  rw [← List.take_append_drop 24 words1, List.all_append, w_t1, ← List.take_append_drop 24 (words1.drop 24), List.all_append, w_t2, ← List.take_append_drop 24 ((words1.drop 24).drop 24), List.all_append, w_t3, ← List.take_append_drop 24 (((words1.drop 24).drop 24).drop 24), List.all_append, w_t4, ← List.take_append_drop 24 ((((words1.drop 24).drop 24).drop 24).drop 24), List.all_append, w_t5, ← List.take_append_drop 24 (((((words1.drop 24).drop 24).drop 24).drop 24).drop 24), List.all_append, w_t6, ← List.take_append_drop 24 ((((((words1.drop 24).drop 24).drop 24).drop 24).drop 24).drop 24), List.all_append, w_t7, w_t8]
  rfl
set_option maxRecDepth 65536 in
theorem w_rest : rest_1_c.before args0 about1 = true := by decide +kernel
set_option maxRecDepth 65536 in
theorem w_case : (Jvm.Cond.and given_1 narrow_1).before args0 about1 = true := by decide +kernel
set_option maxRecDepth 65536 in
theorem w_consts : constsHeld consts_1 about1 := Jvm.Lit.constsHeldB_iff.mp (by decide +kernel)
theorem w_applies : (headSpec (Jvm.Cond.code x code maxLocals ret :: tables_1) room_1).applies x e0.platform about1 = true :=
  (Spec.applies_iff w_frames).mpr ⟨w_running, w_runnable, w_alone, w_named, w_hears, w_ripe, w_room, w_tables⟩
theorem atStart : AtStart classFile x code maxLocals ret World_1 tables_1 room_1 Calls_1 rest_1 Pre_1 launch0 p0 e0 about1 theMethod args0 below0 :=
  ⟨lists_1, trivial, launch0.admits_env _ _ _, launch0.least_env, fairChoices_fair.cas, fairChoices_fair.clock, w_frames, w_args, w_heap, w_applies, ⟨w_consts, trivial⟩, w_rest, w_case⟩
end start1
theorem witness_1 : WitnessClaimed_1 := ⟨start1.p0, start1.e0, start1.about1, start1.theMethod, start1.args0, start1.below0, start1.atStart⟩
end Jvm.Pilot.@@N@@
