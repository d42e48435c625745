import JvmDerived
import JvmDerived.Pilot.@@N@@Statement
import JvmDerived.Pilot.@@N@@Code
set_option linter.unusedVariables false
set_option linter.unusedSimpArgs false
@@BLOCK:NumsL.lean.txt@@
namespace Jvm.Pilot.@@N@@
open Jvm Jvm.ClassFile Sem Op Lib Jvm.Free Jvm.Stand Jvm.LawKit Jvm.RoadKit Bundle Jvm.Pilot.@@N@@.Jvm.D
theorem own_w {Z : State} {a0 : Array Value} (hw : ∀ d ∈ tables_1, d.before a0 Z = true) (i : Nat) {d : Jvm.Cond} (h : tables_1[i]? = some d) : d.before a0 Z = true := hw _ (List.mem_of_getElem? h)
section OwnKit
variable {p : Program} {l : Launch} {e : Env} {R : Room} {s : State} {m : MethodId} {args : Array Value} {below : List Frame} {meth : Method} {c : Code} {T T' : State} {locs : List Loc} {cells slots : Nat} {Q : Option Value → Heap → List Loc → Prop} {k n : Nat} {Fin : Outcome → State → Prop} {Z : State} {a0 : Array Value} {h : Heap} {pc : Nat} {Ls : Array Slot} {rest : List Value}
/-- from this frame on the body ends as Fin says -/
def own_Go (p : Program) (e : Env) (below : List Frame) (Fin : Outcome → State → Prop) (T : State) (f : JFrame) : Prop :=
  ∃ s₂ o, Steps p.tables e below (T.setTop f) s₂ ∧ s₂.status = .running ∧ Ended s₂ below o ∧ Fin o s₂
/-- it returned, as Q says; the frame as ever -/
def own_Fin (s : State) (Q : Option Value → Heap → List Loc → Prop) (k n : Nat) (o : Outcome) (t : State) : Prop := ∃ v L, o = .returned v ∧ Q v t.heap L ∧ FrameEnd s o t L k n
/-- it returned, as Q says; String constants may have been resolved -/
def own_FinW (s : State) (Q : Option Value → Heap → List Loc → Prop) (k n : Nat) (o : Outcome) (t : State) : Prop := ∃ v L, o = .returned v ∧ Q v t.heap L ∧ ReturnedEndW s o t L k n
theorem own_by {f f' : JFrame} (st : ∀ t, Steps p.tables e below (T'.setTop f') t → Steps p.tables e below (T.setTop f) t) (g : own_Go p e below Fin T' f') : own_Go p e below Fin T f := by
  obtain ⟨s₂, o, h, r⟩ := g
  exact ⟨s₂, o, st _ h, r⟩
theorem own_start {f f' : JFrame} (q : f = f') (g : own_Go p e below (own_Fin s Q k n) T f') : ∃ s₂ o, Steps p.tables e below (T.setTop f) s₂ ∧ s₂.status = .running ∧ Ended s₂ below o ∧ ∃ v L, o = .returned v ∧ Q v s₂.heap L ∧ FrameEnd s o s₂ L k n := by
  subst q; exact g
theorem own_startW {f f' : JFrame} (q : f = f') (g : own_Go p e below (own_FinW s Q k n) T f') : ∃ s₂ o, Steps p.tables e below (T.setTop f) s₂ ∧ s₂.status = .running ∧ Ended s₂ below o ∧ ∃ v L, o = .returned v ∧ Q v s₂.heap L ∧ ReturnedEndW s o s₂ L k n := by
  subst q; exact g
theorem own_ret (X : Stand p l e R s m args below meth c T locs cells slots) (hx : p.tables.exec = Jvm.exec) (hlk : meth.locks = false) {w : Value} {t : FieldType} {i : Instr} (hret : meth.sig.returnType = some t)
    (hi : (i = .ireturn ∧ (t = .int ∨ t = .boolean ∨ t = .byte ∨ t = .char ∨ t = .short) ∧ ∃ z, w = .int z) ∨ (i = .lreturn ∧ t = .long ∧ ∃ z, w = .long z) ∨ (i = .dreturn ∧ t = .double ∧ ∃ z, w = .double z) ∨ (i = .freturn ∧ t = .float ∧ ∃ z, w = .float z) ∨ (i = .areturn ∧ t.isReference = true ∧ w.isRef = true))
    (hn : narrow t w = w) (hd : decode c.code pc = .ok (i, 1)) (eT : T.heap = h) (hk : cells ≤ k) (hs : slots ≤ n) (q : Q (some w) h locs) : own_Go p e below (own_Fin s Q k n) T (mkF m pc Ls (w :: rest)) := by
  obtain ⟨fs, hr, hrun, hended, hW, hsame⟩ := X.leave (v := some w) (fun h => by rw [hret] at h; cases h) hlk
  refine ⟨_, _, retOut X hx hret hn hi hd hr, hrun, hended, _, _, rfl, ?_, ⟨_, rfl⟩, hW, hsame.mono hk hs⟩
  show Q _ T.heap _
  rw [eT]; exact q
theorem own_retI (X : Stand p l e R s m args below meth c T locs cells slots) (hx : p.tables.exec = Jvm.exec) (hlk : meth.locks = false) {z : Int32} (hret : meth.sig.returnType = some .int) (hd : decode c.code pc = .ok (.ireturn, 1)) (eT : T.heap = h) (hk : cells ≤ k) (hs : slots ≤ n) (q : Q (some (.int z)) h locs) : own_Go p e below (own_Fin s Q k n) T (mkF m pc Ls (.int z :: rest)) :=
  own_ret X hx hlk hret (Or.inl ⟨rfl, Or.inl rfl, z, rfl⟩) rfl hd eT hk hs q
theorem own_retZ (X : Stand p l e R s m args below meth c T locs cells slots) (hx : p.tables.exec = Jvm.exec) (hlk : meth.locks = false) {z : Int32} (hret : meth.sig.returnType = some .boolean) (hz : z = 0 ∨ z = 1) (hd : decode c.code pc = .ok (.ireturn, 1)) (eT : T.heap = h) (hk : cells ≤ k) (hs : slots ≤ n) (q : Q (some (.int z)) h locs) : own_Go p e below (own_Fin s Q k n) T (mkF m pc Ls (.int z :: rest)) :=
  own_ret X hx hlk hret (Or.inl ⟨rfl, Or.inr (Or.inl rfl), z, rfl⟩) (by rcases hz with rfl | rfl <;> rfl) hd eT hk hs q
theorem own_retJ (X : Stand p l e R s m args below meth c T locs cells slots) (hx : p.tables.exec = Jvm.exec) (hlk : meth.locks = false) {z : Int64} (hret : meth.sig.returnType = some .long) (hd : decode c.code pc = .ok (.lreturn, 1)) (eT : T.heap = h) (hk : cells ≤ k) (hs : slots ≤ n) (q : Q (some (.long z)) h locs) : own_Go p e below (own_Fin s Q k n) T (mkF m pc Ls (.long z :: rest)) :=
  own_ret X hx hlk hret (Or.inr (Or.inl ⟨rfl, rfl, z, rfl⟩)) rfl hd eT hk hs q
theorem own_retR (X : Stand p l e R s m args below meth c T locs cells slots) (hx : p.tables.exec = Jvm.exec) (hlk : meth.locks = false) {w : Value} {t : FieldType} (hret : meth.sig.returnType = some t) (ht : t.isReference = true) (hw : w.isRef = true) (hn : narrow t w = w) (hd : decode c.code pc = .ok (.areturn, 1)) (eT : T.heap = h) (hk : cells ≤ k) (hs : slots ≤ n) (q : Q (some w) h locs) : own_Go p e below (own_Fin s Q k n) T (mkF m pc Ls (w :: rest)) :=
  own_ret X hx hlk hret (Or.inr (Or.inr (Or.inr (Or.inr ⟨rfl, ht, hw⟩)))) hn hd eT hk hs q
theorem own_retV (X : Stand p l e R s m args below meth c T locs cells slots) (hx : p.tables.exec = Jvm.exec) (hlk : meth.locks = false) (hret : meth.sig.returnType = none) (hd : decode c.code pc = .ok (.return_, 1)) (eT : T.heap = h) (hk : cells ≤ k) (hs : slots ≤ n) (q : Q none h locs) : own_Go p e below (own_Fin s Q k n) T (mkF m pc Ls []) := by
  obtain ⟨fs, hr, hrun, hended, hW, hsame⟩ := X.leave (v := none) (fun _ => rfl) hlk
  refine ⟨_, _, X.returnOut hx hret hd hr, hrun, hended, _, _, rfl, ?_, ⟨_, rfl⟩, hW, hsame.mono hk hs⟩
  show Q _ T.heap _
  rw [eT]; exact q
/-- a conditional branch as a plain comparison -/
def own_cnd : ClassFile.Cond → Int32 → Int32 → Prop
  | .eq, x, y => x = y
  | .ne, x, y => ¬ x = y
  | .lt, x, y => x < y
  | .ge, x, y => ¬ x < y
  | .gt, x, y => y < x
  | .le, x, y => ¬ y < x
def own_neg : ClassFile.Cond → ClassFile.Cond
  | .eq => .ne
  | .ne => .eq
  | .lt => .ge
  | .ge => .lt
  | .gt => .le
  | .le => .gt
theorem own_holds (cd : ClassFile.Cond) (x y : Int32) : (if_icmp.holds cd x y = true ∧ own_cnd cd x y) ∨ (if_icmp.holds cd x y = false ∧ own_cnd (own_neg cd) x y) := by
  cases cd
  case eq => by_cases q : x = y; · exact Or.inl ⟨(teq q).1, q⟩
             · exact Or.inr ⟨(feq q).1, q⟩
  case ne => by_cases q : x = y; · exact Or.inr ⟨(teq q).2, q⟩
             · exact Or.inl ⟨(feq q).2, q⟩
  case lt => by_cases q : x < y; · exact Or.inl ⟨(tlt q).1, q⟩
             · exact Or.inr ⟨(flt q).1, q⟩
  case ge => by_cases q : x < y; · exact Or.inr ⟨(tlt q).2.1, q⟩
             · exact Or.inl ⟨(flt q).2.1, q⟩
  case gt => by_cases q : y < x; · exact Or.inl ⟨(tlt q).2.2.1, q⟩
             · exact Or.inr ⟨(flt q).2.2.1, q⟩
  case le => by_cases q : y < x; · exact Or.inr ⟨(tlt q).2.2.2, q⟩
             · exact Or.inl ⟨(flt q).2.2.2, q⟩
theorem own_icmp (X : Stand p l e R s m args below meth c T locs cells slots) (hx : p.tables.exec = Jvm.exec) {cd : ClassFile.Cond} {x y : Int32} {o : Int} (pc' : Nat) (hd : decode c.code pc = .ok (.if_icmp cd o, 3)) (ho : 0 ≤ (pc : Int) + o) (hp : ((pc : Int) + o).toNat = pc')
    (g1 : own_cnd cd x y → own_Go p e below Fin T (mkF m pc' Ls rest)) (g2 : own_cnd (own_neg cd) x y → own_Go p e below Fin T (mkF m (pc + 3) Ls rest)) : own_Go p e below Fin T (mkF m pc Ls (.int y :: .int x :: rest)) := by
  rcases own_holds cd x y with ⟨q, q'⟩ | ⟨q, q'⟩
  · exact own_by (fun t kk => XS.icmpYes X.here hx rfl (pc0 := pc) (pc' := pc') rfl hd rfl q ho hp kk) (g1 q')
  · exact own_by (fun t kk => XS.icmpNo X.here hx rfl hd rfl q kk) (g2 q')
theorem own_if (X : Stand p l e R s m args below meth c T locs cells slots) (hx : p.tables.exec = Jvm.exec) {cd : ClassFile.Cond} {x : Int32} {o : Int} (pc' : Nat) (hd : decode c.code pc = .ok (.ifCond cd o, 3)) (ho : 0 ≤ (pc : Int) + o) (hp : ((pc : Int) + o).toNat = pc')
    (g1 : own_cnd cd x 0 → own_Go p e below Fin T (mkF m pc' Ls rest)) (g2 : own_cnd (own_neg cd) x 0 → own_Go p e below Fin T (mkF m (pc + 3) Ls rest)) : own_Go p e below Fin T (mkF m pc Ls (.int x :: rest)) := by
  rcases own_holds cd x 0 with ⟨q, q'⟩ | ⟨q, q'⟩
  · exact own_by (fun t kk => XS.ifYes X.here hx rfl (pc0 := pc) (pc' := pc') rfl hd rfl ((if0 _ _).trans q) ho hp kk) (g1 q')
  · exact own_by (fun t kk => XS.ifNo X.here hx rfl hd rfl ((if0 _ _).trans q) kk) (g2 q')
/-- a static call by the callee's contract -/
theorem own_callS (X : Stand p l e R s m args below meth c T locs cells slots) (hx : p.tables.exec = Jvm.exec) (hZ : Z.Warmed39 s.vm) {own : String} {index : Nat} {y : MethodName} {bytes : ByteArray} {maxL W : Nat} {ret : Option FieldType} {rm : Room} {Qc : Option Value → Heap → List Loc → Prop}
    (hown : s.vm.findClass own = some m.cls) (w1 : (Cond.methodLink own index y).before a0 Z = true) (w2 : (Cond.static y).before a0 Z = true) (w3 : (Cond.initialized y.cls).before a0 Z = true) (w4 : (Cond.code y bytes maxL ret).before a0 Z = true)
    (hy : y.cls ≠ "java/lang/invoke/MethodHandle" ∧ y.cls ≠ "java/lang/invoke/VarHandle") (hml : Ls.size = c.maxLocals) {argsL : List Value} {ps : List FieldType} {rt : Option FieldType} (pd : parseMethodDescriptor y.desc = some ⟨ps, rt⟩) (hlen : argsL.length = ps.length)
    (hM : MetFree l y (head1 [Cond.code y bytes maxL ret] rm) (fun a U => a = argsL.toArray ∧ Z.Warmed39 U.vm ∧ U.heap = h) (fun _ _ _ _ _ => True) (fun _ U o U' => ∃ v L, o = .returned v ∧ Qc v U'.heap L ∧ FrameEnd U o U' L rm.cells rm.slots))
    (hf : rm.frames + 1 ≤ R.frames) (hl : W + (maxL + 11) + rm.locals ≤ R.locals) (hW : (rest.map fun v => v.category).sum ≤ W) (hc : cells + rm.cells ≤ R.cells) (hs : slots + rm.slots ≤ R.slots) (eT : T.heap = h) {st : List Value} (hst : st = argsL.reverse ++ rest) (hd : decode c.code pc = .ok (.invokestatic index, 3))
    (g : ∀ (v : Option Value) (T' : State) (L : List Loc), Stand p l e R s m args below meth c T' (locs ++ L) (cells + rm.cells) (slots + rm.slots) → Qc v T'.heap L → own_Go p e below Fin T' (mkF m (pc + 3) Ls (v.toList ++ rest))) :
    own_Go p e below Fin T (mkF m pc Ls st) := by
  subst hst
  obtain ⟨v, _, ⟨T2, L2, k2, n2⟩, -, X2, ⟨Lc2, hQ2, l2, y2, z2⟩, st2⟩ := Jvm.LawKit.callS X hx (y := y) hown (mvT hZ w1) (mvT hZ w2) (mvT hZ w3) (mvT hZ w4) hy (backOf (W := W) hM hZ w4 w3 hf hl) (g := (mkF m pc Ls (argsL.reverse ++ rest))) rfl hml (argsL := argsL) (rest := rest) (lenOf pd hlen) rfl (by show 2 * 0 + _ ≤ _; omega) hd (fun _ _ => ⟨rfl, eT, hc, hs⟩)
  dsimp only [Pt.U, Pt.locs, Pt.cells, Pt.slots] at X2 l2 y2 z2 st2 hQ2
  subst l2 y2 z2
  exact own_by (fun t kk => st2 _ kk) (g v T2 Lc2 X2 hQ2)
/-- a constructor by its contract -/
theorem own_callC (X : Stand p l e R s m args below meth c T locs cells slots) (hx : p.tables.exec = Jvm.exec) (hZ : Z.Warmed39 s.vm) {own : String} {index : Nat} {y : MethodName} {bytes : ByteArray} {maxL W : Nat} {rm : Room} {Qc : Option Value → Heap → List Loc → Prop} (hy1 : y.name = "<init>")
    (hown : s.vm.findClass own = some m.cls) (w1 : (Cond.methodLink own index y).before a0 Z = true) (w2 : (Cond.instanceMethod y).before a0 Z = true) (w3 : (Cond.initialized y.cls).before a0 Z = true) (w4 : (Cond.code y bytes maxL none).before a0 Z = true)
    (hy : y.cls ≠ "java/lang/invoke/MethodHandle" ∧ y.cls ≠ "java/lang/invoke/VarHandle") (hml : Ls.size = c.maxLocals) {a : Addr} {argsL : List Value} {ps : List FieldType} {rt : Option FieldType} (pd : parseMethodDescriptor y.desc = some ⟨ps, rt⟩) (hlen : argsL.length = ps.length)
    (hM : MetFree l y (head1 [Cond.code y bytes maxL none] rm) (fun b U => b = (.ref a :: argsL).toArray ∧ Z.Warmed39 U.vm ∧ U.heap = h) (fun _ _ _ _ _ => True) (fun _ U o U' => ∃ v L, o = .returned v ∧ Qc v U'.heap L ∧ FrameEnd U o U' L rm.cells rm.slots))
    (hf : rm.frames + 1 ≤ R.frames) (hl : W + (maxL + 11) + rm.locals ≤ R.locals) (hW : (rest.map fun v => v.category).sum ≤ W) (hc : cells + rm.cells ≤ R.cells) (hs : slots + rm.slots ≤ R.slots) (eT : T.heap = h) {st : List Value} (hst : st = argsL.reverse ++ .ref a :: rest) (hd : decode c.code pc = .ok (.invokespecial index, 3))
    (g : ∀ (v : Option Value) (T' : State) (L : List Loc), Stand p l e R s m args below meth c T' (locs ++ L) (cells + rm.cells) (slots + rm.slots) → Qc v T'.heap L → own_Go p e below Fin T' (mkF m (pc + 3) Ls (v.toList ++ rest))) :
    own_Go p e below Fin T (mkF m pc Ls st) := by
  subst hst
  obtain ⟨v, _, ⟨T2, L2, k2, n2⟩, -, X2, ⟨Lc2, hQ2, l2, y2, z2⟩, st2⟩ := X.specialBack hx (y := y) hy1 hown (mvT hZ w1) (mvT hZ w2) (mvT hZ w4) hy (backOf (W := W) hM hZ w4 w3 hf hl) (g := (mkF m pc Ls (argsL.reverse ++ .ref a :: rest))) rfl hml (Steps.refl _) (a := a) (argsL := argsL) (rest := rest) (lenOf pd hlen) rfl (by show 2 * 0 + _ ≤ _; omega) hd (fun _ _ => ⟨rfl, eT, hc, hs⟩)
  dsimp only [Pt.U, Pt.locs, Pt.cells, Pt.slots] at X2 l2 y2 z2 st2 hQ2
  subst l2 y2 z2
  exact own_by (fun t kk => st2.trans kk) (g v T2 Lc2 X2 hQ2)
/-- an instance method of the receiver's own class by its contract -/
theorem own_callV (X : Stand p l e R s m args below meth c T locs cells slots) (hx : p.tables.exec = Jvm.exec) (hZ : Z.Warmed39 s.vm) {own C : String} {index : Nat} {y z : MethodName} {bytes : ByteArray} {maxL W : Nat} {ret : Option FieldType} {rm : Room} {Qc : Option Value → Heap → List Loc → Prop}
    (hown : s.vm.findClass own = some m.cls) (w1 : (Cond.methodLink own index y).before a0 Z = true) (wd : (Cond.declares y).before a0 Z = true) (nf : NotFace s y) (ws : (Cond.selects C y z).before a0 Z = true) (w2 : (Cond.instanceMethod z).before a0 Z = true) (w3 : (Cond.initialized z.cls).before a0 Z = true) (w4 : (Cond.code z bytes maxL ret).before a0 Z = true)
    (hy : y.cls ≠ "java/lang/invoke/MethodHandle" ∧ y.cls ≠ "java/lang/invoke/VarHandle") (hml : Ls.size = c.maxLocals) {a : Addr} {argsL : List Value} {ps : List FieldType} {rt : Option FieldType} (pd : parseMethodDescriptor y.desc = some ⟨ps, rt⟩) (hlen : argsL.length = ps.length)
    (eT : T.heap = h) (E : Exa Z h a C)
    (hM : MetFree l z (head1 [Cond.code z bytes maxL ret] rm) (fun b U => b = (.ref a :: argsL).toArray ∧ Z.Warmed39 U.vm ∧ U.heap = h) (fun _ _ _ _ _ => True) (fun _ U o U' => ∃ v L, o = .returned v ∧ Qc v U'.heap L ∧ FrameEnd U o U' L rm.cells rm.slots))
    (hf : rm.frames + 1 ≤ R.frames) (hl : W + (maxL + 11) + rm.locals ≤ R.locals) (hW : (rest.map fun v => v.category).sum ≤ W) (hc : cells + rm.cells ≤ R.cells) (hs : slots + rm.slots ≤ R.slots) {st : List Value} (hst : st = argsL.reverse ++ .ref a :: rest) (hd : decode c.code pc = .ok (.invokevirtual index, 3))
    (g : ∀ (v : Option Value) (T' : State) (L : List Loc), Stand p l e R s m args below meth c T' (locs ++ L) (cells + rm.cells) (slots + rm.slots) → Qc v T'.heap L → own_Go p e below Fin T' (mkF m (pc + 3) Ls (v.toList ++ rest))) :
    own_Go p e below Fin T (mkF m pc Ls st) := by
  subst hst
  obtain ⟨cq, kq, qa, qb, qc⟩ := isOf hZ eT E
  obtain ⟨v, _, ⟨T2, L2, k2, n2⟩, -, X2, ⟨Lc2, hQ2, l2, y2, z2⟩, st2⟩ := X.virtualBack hx (y := y) (z := z) hown (mvT hZ w1) (mvT hZ wd) nf (mvT hZ ws) (mvT hZ w2) hy (backOf (W := W) hM hZ w4 w3 hf hl) qa qc (g := (mkF m pc Ls (argsL.reverse ++ .ref a :: rest))) rfl hml (Steps.refl _) (argsL := argsL) (rest := rest) (lenOf pd hlen) rfl (by show 2 * 0 + _ ≤ _; omega) hd (fun _ _ => ⟨rfl, eT, hc, hs⟩)
  dsimp only [Pt.U, Pt.locs, Pt.cells, Pt.slots] at X2 l2 y2 z2 st2 hQ2
  subst l2 y2 z2
  exact own_by (fun t kk => st2.trans kk) (g v T2 Lc2 X2 hQ2)
theorem own_getF (X : Stand p l e R s m args below meth c T locs cells slots) (hx : p.tables.exec = Jvm.exec) (hZ : Z.Warmed39 s.vm) {own R0 O nm d : String} {index : Nat} (hown : s.vm.findClass own = some m.cls) (w : (Cond.fieldLink own index R0 nm d).before a0 Z = true) (via : Via Z R0 O nm d) (eT : T.heap = h) {a : Addr} {v : Value} (F : Fld Z h a O nm d v) (hd : decode c.code pc = .ok (.getfield index, 3))
    (g : ∀ T', Stand p l e R s m args below meth c T' locs cells slots → T'.heap = h → own_Go p e below Fin T' (mkF m (pc + 3) Ls (v :: rest))) : own_Go p e below Fin T (mkF m pc Ls (.ref a :: rest)) := by
  obtain ⟨T', X', e', st⟩ := getF X hx hZ hown (host := "") (Or.inl w) via eT F (g := mkF m pc Ls (.ref a :: rest)) rfl rfl hd
  exact own_by (fun t kk => st _ kk) (g T' X' e')
theorem own_getFN (X : Stand p l e R s m args below meth c T locs cells slots) (hx : p.tables.exec = Jvm.exec) (hZ : Z.Warmed39 s.vm) {own R0 O nm d host : String} {index : Nat} (hown : s.vm.findClass own = some m.cls) (w : (Cond.fieldLinkNest own index R0 nm d host).before a0 Z = true) (via : Via Z R0 O nm d) (eT : T.heap = h) {a : Addr} {v : Value} (F : Fld Z h a O nm d v) (hd : decode c.code pc = .ok (.getfield index, 3))
    (g : ∀ T', Stand p l e R s m args below meth c T' locs cells slots → T'.heap = h → own_Go p e below Fin T' (mkF m (pc + 3) Ls (v :: rest))) : own_Go p e below Fin T (mkF m pc Ls (.ref a :: rest)) := by
  obtain ⟨T', X', e', st⟩ := getF X hx hZ hown (Or.inr w) via eT F (g := mkF m pc Ls (.ref a :: rest)) rfl rfl hd
  exact own_by (fun t kk => st _ kk) (g T' X' e')
theorem own_getS (X : Stand p l e R s m args below meth c T locs cells slots) (hx : p.tables.exec = Jvm.exec) (hZ : Z.Warmed39 s.vm) {own R0 O nm d : String} {index : Nat} (hown : s.vm.findClass own = some m.cls) (w : (Cond.fieldLink own index R0 nm d).before a0 Z = true) (via : Via Z R0 O nm d) (eT : T.heap = h) {v : Value} (F : Sta Z h O nm d v) (hd : decode c.code pc = .ok (.getstatic index, 3)) {st0 : List Value}
    (g : ∀ T', Stand p l e R s m args below meth c T' locs cells slots → T'.heap = h → own_Go p e below Fin T' (mkF m (pc + 3) Ls (v :: st0))) : own_Go p e below Fin T (mkF m pc Ls st0) := by
  obtain ⟨T', X', e', st⟩ := getS2 X hx hZ hown (host := "") (Or.inl w) via eT F (g := mkF m pc Ls st0) rfl hd
  exact own_by (fun t kk => st _ kk) (g T' X' e')
theorem own_getSN (X : Stand p l e R s m args below meth c T locs cells slots) (hx : p.tables.exec = Jvm.exec) (hZ : Z.Warmed39 s.vm) {own R0 O nm d host : String} {index : Nat} (hown : s.vm.findClass own = some m.cls) (w : (Cond.fieldLinkNest own index R0 nm d host).before a0 Z = true) (via : Via Z R0 O nm d) (eT : T.heap = h) {v : Value} (F : Sta Z h O nm d v) (hd : decode c.code pc = .ok (.getstatic index, 3)) {st0 : List Value}
    (g : ∀ T', Stand p l e R s m args below meth c T' locs cells slots → T'.heap = h → own_Go p e below Fin T' (mkF m (pc + 3) Ls (v :: st0))) : own_Go p e below Fin T (mkF m pc Ls st0) := by
  obtain ⟨T', X', e', st⟩ := getS2 X hx hZ hown (Or.inr w) via eT F (g := mkF m pc Ls st0) rfl hd
  exact own_by (fun t kk => st _ kk) (g T' X' e')
theorem own_putF (X : Stand p l e R s m args below meth c T locs cells slots) (hx : p.tables.exec = Jvm.exec) (hZ : Z.Warmed39 s.vm) {own R0 O nm d C : String} {index kk : Nat} {ty : FieldType} (hown : s.vm.findClass own = some m.cls) (w : (Cond.fieldLink own index R0 nm d).before a0 Z = true) (via : Via Z R0 O nm d) (eT : T.heap = h) {a : Addr} {v old : Value} (F : Fld Z h a O nm d old) (E : Exa Z h a C)
    (L : (Cond.lays C O nm d).before a0 Z = true ∨ ((Cond.laysFinal C O nm d).before a0 Z = true ∧ own = O ∧ meth.name = "<init>")) (wi : (Cond.instantiable C kk).before a0 Z = true) (hty : parseFieldDescriptor d = some ty) (hn : narrow ty v = v) (hf : fits ty v = true) (hd : decode c.code pc = .ok (.putfield index, 3))
    (g : ∀ T' h', Stand p l e R s m args below meth c T' (locs ++ [⟨a, Jvm.RoadKit.slotOf Z O nm d⟩]) cells slots → T'.heap = h' → Wr h h' a (Jvm.RoadKit.slotOf Z O nm d) v → own_Go p e below Fin T' (mkF m (pc + 3) Ls rest)) : own_Go p e below Fin T (mkF m pc Ls (v :: .ref a :: rest)) := by
  obtain ⟨T', h', X', e', W', st⟩ := putF X hx hZ hown (host := "") (Or.inl w) via eT F E L wi hty hn hf (g := mkF m pc Ls (v :: .ref a :: rest)) rfl rfl hd
  exact own_by (fun t kk => st _ kk) (g T' h' X' e' W')
theorem own_newO (X : Stand p l e R s m args below meth c T locs cells slots) (hx : p.tables.exec = Jvm.exec) (hZ : Z.Warmed39 s.vm) {own C : String} {index nn : Nat} (hown : s.vm.findClass own = some m.cls) (w : (Cond.classLink own index C).before a0 Z = true) (wi : (Cond.instantiable C nn).before a0 Z = true) (wz : (Cond.initialized C).before a0 Z = true) (eT : T.heap = h) (hd : decode c.code pc = .ok (.new index, 3)) (hc : cells + 1 ≤ R.cells) (hl : slots + nn ≤ R.slots) {st0 : List Value}
    (g : ∀ T' h' (b : Addr), Stand p l e R s m args below meth c T' locs (cells + 1) (slots + nn) → T'.heap = h' → b = h.size → Ext h h' → Exa Z h' b C → (∀ {O nm d : String} {ty : FieldType}, Laid Z a0 C O nm d → parseFieldDescriptor d = some ty → Fld Z h' b O nm d (defaultValue ty)) → own_Go p e below Fin T' (mkF m (pc + 3) Ls (.ref b :: st0))) : own_Go p e below Fin T (mkF m pc Ls st0) := by
  obtain ⟨T', h', X', e', E', A', D', -, st⟩ := newO X hx hZ hown w wi wz eT (g := mkF m pc Ls st0) rfl hd hc hl
  exact own_by (fun t kk => st _ kk) (g T' h' _ X' e' rfl E' A' D')
theorem own_initO (X : Stand p l e R s m args below meth c T locs cells slots) (hx : p.tables.exec = Jvm.exec) (hZ : Z.Warmed39 s.vm) {own : String} {idx : Nat} (hown : s.vm.findClass own = some m.cls) (w1 : (Cond.methodLink own idx Lib.objectInit).before a0 Z = true) (w2 : (Cond.instanceMethod Lib.objectInit).before a0 Z = true) (w3 : (Cond.code Lib.objectInit ⟨#[0xb1]⟩ 1 none).before a0 Z = true) (eT : T.heap = h) (hml : Ls.size = c.maxLocals) {a : Addr} (hd : decode c.code pc = .ok (.invokespecial idx, 3)) (hf : 1 ≤ R.frames) {W : Nat} (hW : (rest.map fun v => v.category).sum ≤ W) (hl : W + 12 ≤ R.locals)
    (g : ∀ T', Stand p l e R s m args below meth c T' locs cells slots → T'.heap = h → own_Go p e below Fin T' (mkF m (pc + 3) Ls rest)) : own_Go p e below Fin T (mkF m pc Ls (.ref a :: rest)) := by
  obtain ⟨T', X', e', st⟩ := initO X hx hZ hown w1 w2 w3 eT (g := mkF m pc Ls (.ref a :: rest)) rfl hml rfl hd hf (W := W) (by show 2 * 0 + _ ≤ _; omega) hl
  exact own_by (fun t kk => st _ kk) (g T' X' e')
end OwnKit
section OwnMore
variable {p : Program} {l : Launch} {e : Env} {R : Room} {s : State} {m : MethodId} {args : Array Value} {below : List Frame} {meth : Method} {c : Code} {T T' : State} {locs : List Loc} {cells slots : Nat} {Q : Option Value → Heap → List Loc → Prop} {k n : Nat} {Fin : Outcome → State → Prop} {Z : State} {a0 : Array Value} {h : Heap} {pc : Nat} {Ls : Array Slot} {rest : List Value}
theorem own_acmpEq (X : Stand p l e R s m args below meth c T locs cells slots) (hx : p.tables.exec = Jvm.exec) {a b : Addr} {o : Int} (pc' : Nat) (hd : decode c.code pc = .ok (.if_acmp .eq o, 3)) (ho : 0 ≤ (pc : Int) + o) (hp : ((pc : Int) + o).toNat = pc')
    (g1 : a = b → own_Go p e below Fin T (mkF m pc' Ls rest)) (g2 : ¬ a = b → own_Go p e below Fin T (mkF m (pc + 3) Ls rest)) : own_Go p e below Fin T (mkF m pc Ls (.ref b :: .ref a :: rest)) := by
  by_cases q : a = b
  · exact own_by (fun t kk => XT.acmpYes X.here hx rfl (pc0 := pc) (pc' := pc') rfl hd rfl rfl rfl (decide_eq_true (congrArg Value.ref q)) ho hp kk) (g1 q)
  · exact own_by (fun t kk => XT.acmpNo X.here hx rfl hd rfl rfl rfl (decide_eq_false fun z => q (Value.ref.inj z)) kk) (g2 q)
theorem own_acmpNe (X : Stand p l e R s m args below meth c T locs cells slots) (hx : p.tables.exec = Jvm.exec) {a b : Addr} {o : Int} (pc' : Nat) (hd : decode c.code pc = .ok (.if_acmp .ne o, 3)) (ho : 0 ≤ (pc : Int) + o) (hp : ((pc : Int) + o).toNat = pc')
    (g1 : ¬ a = b → own_Go p e below Fin T (mkF m pc' Ls rest)) (g2 : a = b → own_Go p e below Fin T (mkF m (pc + 3) Ls rest)) : own_Go p e below Fin T (mkF m pc Ls (.ref b :: .ref a :: rest)) := by
  by_cases q : a = b
  · exact own_by (fun t kk => XT.acmpNo X.here hx rfl hd rfl rfl rfl (decide_eq_false fun z => z (congrArg Value.ref q)) kk) (g2 q)
  · exact own_by (fun t kk => XT.acmpYes X.here hx rfl (pc0 := pc) (pc' := pc') rfl hd rfl rfl rfl (decide_eq_true fun z => q (Value.ref.inj z)) ho hp kk) (g1 q)
theorem own_eqI {args : Array Value} {t : Term} {x : Int32} (h : (Cond.eq t (.int x)).value args s none s [] = some true) : t.eval args s none [] s = some (.int x) := by
  have q : (Term.int x).eval args s none [] s = some (.int x) := rfl
  cases ht : t.eval args s none [] s with
  | none => simp [Cond.value, ht] at h
  | some w => cases w <;> simp [Cond.value, ht, q] at h <;> (try subst h) <;> simp_all
theorem own_enumF {args : Array Value} {C f d O nm dd : String} {a : Addr} {x : Int32} (ev : (Term.static C f d).eval args s none [] s = some (.ref a)) (h : (Cond.eq (Term.field (Term.static C f d) O nm dd) (.int x)).value args s none s [] = some true) : Fld s s.heap a O nm dd (.int x) :=
  Fld.start ((fld_at ev).symm.trans (own_eqI h))
theorem own_Sta_keep {Z : State} {h h' : Heap} {C n d : String} {v : Value} {ws : List Addr} (F : Sta Z h C n d v) (K : Keep h h' ws) (q : ∀ x ∈ ws, ∀ cell : Cell, h[x]? = some cell → cell.vm.isStatics = false) : Sta Z h' C n d v := by
  obtain ⟨cf, i, k, f, st, cell, h1, h2, h3, h4, h5, h6, h7⟩ := F
  exact ⟨cf, i, k, f, st, cell, h1, h2, h3, h4, K.2.1 st cell h5 (fun z => by rw [q st z cell h5] at h6; cases h6), h6, h7⟩
end OwnMore
section OwnCall
variable {p : Program} {l : Launch} {e : Env} {R : Room} {s : State} {m : MethodId} {args : Array Value} {below : List Frame} {meth : Method} {c : Code} {T T' : State} {locs : List Loc} {cells slots : Nat} {Fin : Outcome → State → Prop} {Z : State} {a0 : Array Value} {h : Heap} {pc : Nat} {Ls : Array Slot} {rest : List Value}
/-- a private method is selected itself -/
theorem own_selp {y : MethodName} {nn : Nat} (hins : (Cond.instantiable y.cls nn).before args s = true) (hpriv : (Cond.privateMethod y).before args s = true) (hinst : (Cond.instanceMethod y).before args s = true) (hy : y.cls ≠ "java/lang/invoke/MethodHandle" ∧ y.cls ≠ "java/lang/invoke/VarHandle") :
    (Cond.selects y.cls y y).before args s = true := by
  obtain ⟨cc, kc, hc, hk, -, hniab, -, -⟩ := Cond.instantiable_spec hins
  have hni : kc.isInterface = false := (Bool.or_eq_false_iff.mp hniab).1
  obtain ⟨mk, methM, hnamed, hmethM, -, -⟩ := Cond.instanceMethod_spec hinst
  have hfound : s.methodFound? y.cls y.name y.desc = some mk := State.methodFound?_of_named hnamed hy
  have hcls : mk.cls = cc := Option.some.inj ((findClass_of_methodNamed hnamed).symm.trans hc)
  have hsel : selectMethod {} s.vm cc mk = .method mk := selectMethod_private hmethM (Cond.privateMethod_at hpriv mk methM hnamed hmethM)
  simp only [Cond.before, Cond.holds, Cond.value, hc, hfound, hnamed, hsel, hcls, hk]
  simp; exact hni
/-- a private method of the receiver by its contract -/
theorem own_callP (X : Stand p l e R s m args below meth c T locs cells slots) (hx : p.tables.exec = Jvm.exec) (hZ : Z.Warmed39 s.vm) {own C : String} {index nn : Nat} {y : MethodName} {bytes : ByteArray} {maxL W : Nat} {ret : Option FieldType} {rm : Room} {Qc : Option Value → Heap → List Loc → Prop}
    (hown : s.vm.findClass own = some m.cls) (w1 : (Cond.methodLink own index y).before a0 Z = true) (w2 : (Cond.instanceMethod y).before a0 Z = true) (wi : (Cond.instantiable y.cls nn).before a0 Z = true) (wp : (Cond.privateMethod y).before a0 Z = true) (w3 : (Cond.initialized y.cls).before a0 Z = true) (w4 : (Cond.code y bytes maxL ret).before a0 Z = true)
    (hy : y.cls ≠ "java/lang/invoke/MethodHandle" ∧ y.cls ≠ "java/lang/invoke/VarHandle") (hml : Ls.size = c.maxLocals) {a : Addr} {argsL : List Value} {ps : List FieldType} {rt : Option FieldType} (pd : parseMethodDescriptor y.desc = some ⟨ps, rt⟩) (hlen : argsL.length = ps.length)
    (eT : T.heap = h) (E : Exa Z h a C)
    (hM : MetFree l y (head1 [Cond.code y bytes maxL ret] rm) (fun b U => b = (.ref a :: argsL).toArray ∧ Z.Warmed39 U.vm ∧ U.heap = h) (fun _ _ _ _ _ => True) (fun _ U o U' => ∃ v L, o = .returned v ∧ Qc v U'.heap L ∧ FrameEnd U o U' L rm.cells rm.slots))
    (hf : rm.frames + 1 ≤ R.frames) (hl : W + (maxL + 11) + rm.locals ≤ R.locals) (hW : (rest.map fun v => v.category).sum ≤ W) (hc : cells + rm.cells ≤ R.cells) (hs : slots + rm.slots ≤ R.slots) {st : List Value} (hst : st = argsL.reverse ++ .ref a :: rest) (hd : decode c.code pc = .ok (.invokevirtual index, 3))
    (g : ∀ (v : Option Value) (T' : State) (L : List Loc), Stand p l e R s m args below meth c T' (locs ++ L) (cells + rm.cells) (slots + rm.slots) → Qc v T'.heap L → own_Go p e below Fin T' (mkF m (pc + 3) Ls (v.toList ++ rest))) :
    own_Go p e below Fin T (mkF m pc Ls st) := by
  subst hst
  obtain ⟨cq, q1, q2⟩ := E.cell
  obtain ⟨v, _, ⟨T2, L2, k2, n2⟩, -, X2, ⟨Lc2, hQ2, l2, y2, z2⟩, st2⟩ := X.privateBack hx (y := y) hown (mvT hZ w1) (mvT hZ w2) (own_selp (mvT hZ wi) (mvP hZ wp) (mvT hZ w2) hy) (Cond.privateMethod_at (mvP hZ wp (args := #[]))) (mvT hZ w4) hy (backOf (W := W) hM hZ w4 w3 hf hl) (g := (mkF m pc Ls (argsL.reverse ++ .ref a :: rest))) rfl hml (Steps.refl _) (a := a) (by rw [eT]; exact q1) q2 (argsL := argsL) (rest := rest) (lenOf pd hlen) rfl (by show 2 * 0 + _ ≤ _; omega) hd (fun _ _ => ⟨rfl, eT, hc, hs⟩)
  dsimp only [Pt.U, Pt.locs, Pt.cells, Pt.slots] at X2 l2 y2 z2 st2 hQ2
  subst l2 y2 z2
  exact own_by (fun t kk => st2.trans kk) (g v T2 Lc2 X2 hQ2)
/-- an interface's method by the contract of the body that the receiver's class selects -/
theorem own_callI (X : Stand p l e R s m args below meth c T locs cells slots) (hx : p.tables.exec = Jvm.exec) (hZ : Z.Warmed39 s.vm) {own C : String} {index count : Nat} {xi y : MethodName} {bytes : ByteArray} {maxL W : Nat} {ret : Option FieldType} {rm : Room} {Qc : Option Value → Heap → List Loc → Prop}
    (hown : s.vm.findClass own = some m.cls) (w1 : (Cond.methodLink own index xi).before a0 Z = true) (wd : (Cond.declares xi).before a0 Z = true) (wf : (Cond.interfaceMethod xi.cls xi.cls xi.name xi.desc).before a0 Z = true) (hwf : ((Cond.interfaceMethod xi.cls xi.cls xi.name xi.desc).onTables && (Cond.interfaceMethod xi.cls xi.cls xi.name xi.desc).keepsFace) = true) (ws : (Cond.selects C xi y).before a0 Z = true) (w2 : (Cond.instanceMethod y).before a0 Z = true) (wp : (Cond.publicMethod y).before a0 Z = true) (wu : (Cond.unhidden C xi.name xi.desc).before a0 Z = true) (wc : (Cond.castable C xi.cls).before a0 Z = true) (w3 : (Cond.initialized y.cls).before a0 Z = true) (w4 : (Cond.code y bytes maxL ret).before a0 Z = true)
    (hy : xi.cls ≠ "java/lang/invoke/MethodHandle" ∧ xi.cls ≠ "java/lang/invoke/VarHandle") (hml : Ls.size = c.maxLocals) {a : Addr} {argsL : List Value} {ps : List FieldType} {rt : Option FieldType} (pd : parseMethodDescriptor xi.desc = some ⟨ps, rt⟩) (hlen : argsL.length = ps.length)
    (eT : T.heap = h) (E : Exa Z h a C)
    (hM : MetFree l y (head1 [Cond.code y bytes maxL ret] rm) (fun b U => b = (.ref a :: argsL).toArray ∧ Z.Warmed39 U.vm ∧ U.heap = h) (fun _ _ _ _ _ => True) (fun _ U o U' => ∃ v L, o = .returned v ∧ Qc v U'.heap L ∧ FrameEnd U o U' L rm.cells rm.slots))
    (hf : rm.frames + 1 ≤ R.frames) (hl : W + (maxL + 11) + rm.locals ≤ R.locals) (hW : (rest.map fun v => v.category).sum ≤ W) (hc : cells + rm.cells ≤ R.cells) (hs : slots + rm.slots ≤ R.slots) {st : List Value} (hst : st = argsL.reverse ++ .ref a :: rest) (hd : decode c.code pc = .ok (.invokeinterface index count, 5))
    (g : ∀ (v : Option Value) (T' : State) (L : List Loc), Stand p l e R s m args below meth c T' (locs ++ L) (cells + rm.cells) (slots + rm.slots) → Qc v T'.heap L → own_Go p e below Fin T' (mkF m (pc + 5) Ls (v.toList ++ rest))) :
    own_Go p e below Fin T (mkF m pc Ls st) := by
  subst hst
  obtain ⟨cq, kq, qa, qb, qc⟩ := isOf hZ eT E
  obtain ⟨v, _, ⟨T2, L2, k2, n2⟩, -, X2, ⟨Lc2, hQ2, l2, y2, z2⟩, st2⟩ := X.interfaceBack hx (xi := xi) (y := y) hown (mvT hZ w1) (mvT hZ wd) (mvT hZ wf hwf) (mvT hZ ws) (mvT hZ w2) (mvT hZ wp) (mvT hZ wu) (mvT hZ wc) hy (backOf (W := W) hM hZ w4 w3 hf hl) qa qb qc (g := (mkF m pc Ls (argsL.reverse ++ .ref a :: rest))) rfl hml (Steps.refl _) (argsL := argsL) (rest := rest) (lenOf pd hlen) rfl (by show 2 * 0 + _ ≤ _; omega) hd (fun _ _ => ⟨rfl, eT, hc, hs⟩)
  dsimp only [Pt.U, Pt.locs, Pt.cells, Pt.slots] at X2 l2 y2 z2 st2 hQ2
  subst l2 y2 z2
  exact own_by (fun t kk => st2.trans kk) (g v T2 Lc2 X2 hQ2)
theorem own_cast (X : Stand p l e R s m args below meth c T locs cells slots) (hx : p.tables.exec = Jvm.exec) (hZ : Z.Warmed39 s.vm) {own K : String} {index : Nat} (hown : s.vm.findClass own = some m.cls) (w : (Cond.classLink own index K).before a0 Z = true) (eT : T.heap = h) {a : Addr} (F : Ins Z h a K true) (hd : decode c.code pc = .ok (.checkcast index, 3))
    (g : ∀ T', Stand p l e R s m args below meth c T' locs cells slots → T'.heap = h → own_Go p e below Fin T' (mkF m (pc + 3) Ls (.ref a :: rest))) : own_Go p e below Fin T (mkF m pc Ls (.ref a :: rest)) := by
  obtain ⟨T', X', e', st⟩ := castY X hx hZ hown w eT F (g := mkF m pc Ls (.ref a :: rest)) rfl rfl hd
  exact own_by (fun t kk => st _ kk) (g T' X' e')
theorem own_inst (X : Stand p l e R s m args below meth c T locs cells slots) (hx : p.tables.exec = Jvm.exec) (hZ : Z.Warmed39 s.vm) {own K : String} {index : Nat} (hown : s.vm.findClass own = some m.cls) (w : (Cond.classLink own index K).before a0 Z = true) (eT : T.heap = h) {a : Addr} (F : Ins Z h a K true) (hd : decode c.code pc = .ok (.instanceof index, 3))
    (g : ∀ T', Stand p l e R s m args below meth c T' locs cells slots → T'.heap = h → own_Go p e below Fin T' (mkF m (pc + 3) Ls (.int (1 : Int32) :: rest))) : own_Go p e below Fin T (mkF m pc Ls (.ref a :: rest)) := by
  obtain ⟨T', X', e', st⟩ := instY X hx hZ hown w eT F (g := mkF m pc Ls (.ref a :: rest)) rfl rfl hd
  exact own_by (fun t kk => st _ kk) (g T' X' e')
end OwnCall
section OwnArr
variable {p : Program} {l : Launch} {e : Env} {R : Room} {s : State} {m : MethodId} {args : Array Value} {below : List Frame} {meth : Method} {c : Code} {T T' : State} {locs : List Loc} {cells slots : Nat} {Q : Option Value → Heap → List Loc → Prop} {k n : Nat} {Fin : Outcome → State → Prop} {Z : State} {a0 : Array Value} {h h' : Heap} {pc : Nat} {Ls : Array Slot} {rest : List Value}
/-- the array at a holds just vs -/
def own_Arr (Z : State) (h : Heap) (a : Addr) (ty : FieldType) (vs : List Value) : Prop := ∃ cl : Cell, Arr Z h a cl ty ∧ cl.slots = vs.toArray ∧ vs.length < 2 ^ 31 ∧ ∀ v ∈ vs, fits ty v = true
section Facts
variable {a b : Addr} {ty : FieldType} {vs : List Value} {sl : Nat} {v : Value} {ws : List Addr}
theorem own_Arr.lt (F : own_Arr Z h a ty vs) : a < h.size := by obtain ⟨c, A, -⟩ := F; exact A.lt
theorem own_Arr.ext (F : own_Arr Z h a ty vs) (E : Ext h h') : own_Arr Z h' a ty vs := by obtain ⟨c, A, r⟩ := F; exact ⟨c, A.ext E, r⟩
theorem own_Arr.other (F : own_Arr Z h b ty vs) (W : Wr h h' a sl v) (q : b ≠ a) : own_Arr Z h' b ty vs := by obtain ⟨c, A, r⟩ := F; exact ⟨c, A.other W q, r⟩
theorem own_Arr.keep (F : own_Arr Z h a ty vs) (K : Keep h h' ws) (q : a ∉ ws) : own_Arr Z h' a ty vs := by obtain ⟨c, A, r⟩ := F; exact ⟨c, ⟨K.2.1 a c A.1 q, A.2⟩, r⟩
theorem own_Arr.set (F : own_Arr Z h a ty vs) (W : Wr h h' a sl v) (hv : fits ty v = true) : own_Arr Z h' a ty (vs.set sl v) := by
  obtain ⟨c, A, r1, r2, r3⟩ := F
  refine ⟨_, A.same W, ?_, by simpa using r2, fun u hu => ?_⟩
  rotate_left
  · rcases List.mem_or_eq_of_mem_set hu with q | q
    · exact r3 u q
    · rw [q]; exact hv
  show c.slots.setIfInBounds sl v = _
  rw [r1]; simp
theorem own_idx {j : Int32} {i : Nat} (hj : j.toInt = (i : Int)) : j.toNatClampNeg = i ∧ ¬ j < 0 := by
  constructor
  · show j.toInt.toNat = i
    rw [hj]; simp
  · rw [Int32.lt_iff_toInt_lt, hj]
    have : (0 : Int32).toInt = 0 := by decide
    omega
theorem own_inb {cl : Cell} {j : Int32} {i : Nat} (hj : j.toInt = (i : Int)) (hs : cl.slots = vs.toArray) (hi : i < vs.length) : ¬ (j < 0 ∨ cl.slots.size ≤ j.toNatClampNeg) := by
  obtain ⟨q1, q2⟩ := own_idx hj
  rw [q1, hs]
  intro q
  rcases q with q | q
  · exact q2 q
  · simp at q; omega
theorem own_lt_of {i : Nat} {v : Value} (hv : vs[i]? = some v) : i < vs.length := (List.getElem?_eq_some_iff.mp hv).1
theorem own_Arr.new {cA : ClassId} {j : Int32} {i : Nat} (A : Arr Z h a (newA cA ty j) ty) (hj : j.toInt = (i : Int)) : own_Arr Z h a ty (List.replicate i (defaultValue ty)) := by
  refine ⟨_, A, ?_, ?_, fun u hu => ?_⟩
  rotate_left 2
  · rw [(List.mem_replicate.mp hu).2]
    cases ty <;> rfl
  · show Array.replicate j.toNatClampNeg (defaultValue ty) = _
    rw [(own_idx hj).1]; simp
  · have := Int32.toInt_lt j
    simp; omega
end Facts
theorem own_newP (X : Stand p l e R s m args below meth c T locs cells slots) (hx : p.tables.exec = Jvm.exec) (hZ : Z.Warmed39 s.vm) {aty : ArrayType} (w : (Cond.arrayClass (newarray.typeOf aty)).before a0 Z = true) (eT : T.heap = h) (hd : decode c.code pc = .ok (.newarray aty, 2)) {j : Int32} (i cap : Nat) (hj : j.toInt = (i : Int)) (hcap : i ≤ cap) (hb : cap * 8 ≤ 536870912) (hc : cells + 1 ≤ R.cells) (hl : slots + cap ≤ R.slots)
    (g : ∀ T' h' (b : Addr), Stand p l e R s m args below meth c T' locs (cells + 1) (slots + cap) → T'.heap = h' → b = h.size → Ext h h' → own_Arr Z h' b (newarray.typeOf aty) (List.replicate i (defaultValue (newarray.typeOf aty))) → own_Go p e below Fin T' (mkF m (pc + 2) Ls (.ref b :: rest))) : own_Go p e below Fin T (mkF m pc Ls (.int j :: rest)) := by
  obtain ⟨q1, q2⟩ := own_idx hj
  obtain ⟨T', h', cA, X', e', E', A', st⟩ := newP X hx hZ w eT (g := mkF m pc Ls (.int j :: rest)) rfl hd rfl q2 (cap := cap) (by rw [q1]; exact hcap) hb hc hl
  exact own_by (fun t kk => st _ kk) (g T' h' _ X' e' rfl E' (own_Arr.new A' hj))
theorem own_iastore (X : Stand p l e R s m args below meth c T locs cells slots) (hx : p.tables.exec = Jvm.exec) (hZ : Z.Warmed39 s.vm) (eT : T.heap = h) {a : Addr} {vs : List Value} (A : own_Arr Z h a .int vs) {j x : Int32} (i : Nat) (hj : j.toInt = (i : Int)) (hi : i < vs.length) (hd : decode c.code pc = .ok (.iastore, 1))
    (g : ∀ T' h', Stand p l e R s m args below meth c T' (locs ++ [⟨a, i⟩]) cells slots → T'.heap = h' → Wr h h' a i (.int x) → own_Arr Z h' a .int (vs.set i (.int x)) → own_Go p e below Fin T' (mkF m (pc + 1) Ls rest)) : own_Go p e below Fin T (mkF m pc Ls (.int x :: .int j :: .ref a :: rest)) := by
  have A' := A
  obtain ⟨cl, A1, r1, r2⟩ := A
  obtain ⟨T', h', X', e', W', st⟩ := stI X hx hZ eT A1 (own_inb hj r1 hi) (g := mkF m pc Ls (.int x :: .int j :: .ref a :: rest)) rfl rfl hd
  rw [(own_idx hj).1] at X' W'
  exact own_by (fun t kk => st _ kk) (g T' h' X' e' W' (A'.set W' rfl))
theorem own_iaload (X : Stand p l e R s m args below meth c T locs cells slots) (hx : p.tables.exec = Jvm.exec) (hZ : Z.Warmed39 s.vm) (eT : T.heap = h) {a : Addr} {vs : List Value} (A : own_Arr Z h a .int vs) {j : Int32} {v : Value} (i : Nat) (hj : j.toInt = (i : Int)) (hv : vs[i]? = some v) (hd : decode c.code pc = .ok (.iaload, 1))
    (g : own_Go p e below Fin T (mkF m (pc + 1) Ls (v :: rest))) : own_Go p e below Fin T (mkF m pc Ls (.int j :: .ref a :: rest)) := by
  obtain ⟨cl, A1, r1, r2⟩ := A
  exact own_by (fun t kk => X.iaload hx (j := j) (v := v) (by rw [eT]; exact A1.1) (State.isArrayOf_alike hZ.alike A1.2.1) A1.2.2 (own_inb hj r1 (own_lt_of hv)) (by rw [(own_idx hj).1, r1]; simpa using hv) (g := mkF m pc Ls (.int j :: .ref a :: rest)) rfl rfl hd _ kk) g
theorem own_caload (X : Stand p l e R s m args below meth c T locs cells slots) (hx : p.tables.exec = Jvm.exec) (hZ : Z.Warmed39 s.vm) (eT : T.heap = h) {a : Addr} {vs : List Value} (A : own_Arr Z h a .char vs) {j : Int32} {v : Value} (i : Nat) (hj : j.toInt = (i : Int)) (hv : vs[i]? = some v) (hd : decode c.code pc = .ok (.caload, 1))
    (g : own_Go p e below Fin T (mkF m (pc + 1) Ls (v :: rest))) : own_Go p e below Fin T (mkF m pc Ls (.int j :: .ref a :: rest)) := by
  obtain ⟨cl, A1, r1, r2⟩ := A
  exact own_by (fun t kk => X.caload hx (j := j) (v := v) (by rw [eT]; exact A1.1) (State.isArrayOf_alike hZ.alike A1.2.1) A1.2.2 (own_inb hj r1 (own_lt_of hv)) (by rw [(own_idx hj).1, r1]; simpa using hv) (g := mkF m pc Ls (.int j :: .ref a :: rest)) rfl rfl hd _ kk) g
theorem own_baload (X : Stand p l e R s m args below meth c T locs cells slots) (hx : p.tables.exec = Jvm.exec) (hZ : Z.Warmed39 s.vm) (eT : T.heap = h) {a : Addr} {vs : List Value} (A : own_Arr Z h a .byte vs) {j : Int32} {v : Value} (i : Nat) (hj : j.toInt = (i : Int)) (hv : vs[i]? = some v) (hd : decode c.code pc = .ok (.baload, 1))
    (g : own_Go p e below Fin T (mkF m (pc + 1) Ls (v :: rest))) : own_Go p e below Fin T (mkF m pc Ls (.int j :: .ref a :: rest)) := by
  obtain ⟨cl, A1, r1, r2⟩ := A
  exact own_by (fun t kk => X.baloadBytes hx (j := j) (v := v) (by rw [eT]; exact A1.1) (State.isArrayOf_alike hZ.alike A1.2.1) A1.2.2 (own_inb hj r1 (own_lt_of hv)) (by rw [(own_idx hj).1, r1]; simpa using hv) (g := mkF m pc Ls (.int j :: .ref a :: rest)) rfl rfl hd _ kk) g
theorem own_laload (X : Stand p l e R s m args below meth c T locs cells slots) (hx : p.tables.exec = Jvm.exec) (hZ : Z.Warmed39 s.vm) (eT : T.heap = h) {a : Addr} {vs : List Value} (A : own_Arr Z h a .long vs) {j : Int32} {v : Value} (i : Nat) (hj : j.toInt = (i : Int)) (hv : vs[i]? = some v) (hd : decode c.code pc = .ok (.laload, 1))
    (g : own_Go p e below Fin T (mkF m (pc + 1) Ls (v :: rest))) : own_Go p e below Fin T (mkF m pc Ls (.int j :: .ref a :: rest)) := by
  obtain ⟨cl, A1, r1, r2⟩ := A
  exact own_by (fun t kk => X.laload hx (j := j) (v := v) (by rw [eT]; exact A1.1) (State.isArrayOf_alike hZ.alike A1.2.1) A1.2.2 (own_inb hj r1 (own_lt_of hv)) (by rw [(own_idx hj).1, r1]; simpa using hv) (g := mkF m pc Ls (.int j :: .ref a :: rest)) rfl rfl hd _ kk) g
theorem own_castore (X : Stand p l e R s m args below meth c T locs cells slots) (hx : p.tables.exec = Jvm.exec) (hZ : Z.Warmed39 s.vm) (eT : T.heap = h) {a : Addr} {vs : List Value} (A : own_Arr Z h a .char vs) {j : Int32} {x : Int32} (i : Nat) (hj : j.toInt = (i : Int)) (hi : i < vs.length) (hd : decode c.code pc = .ok (.castore, 1))
    (g : ∀ T' h', Stand p l e R s m args below meth c T' (locs ++ [⟨a, i⟩]) cells slots → T'.heap = h' → Wr h h' a i (.int (nar .char x)) → own_Arr Z h' a .char (vs.set i (.int (nar .char x))) → own_Go p e below Fin T' (mkF m (pc + 1) Ls rest)) : own_Go p e below Fin T (mkF m pc Ls (.int x :: .int j :: .ref a :: rest)) := by
  have A' := A
  obtain ⟨cl, A1, r1, r2⟩ := A
  obtain ⟨T', h', X', e', W', st⟩ := stC X hx hZ eT A1 (own_inb hj r1 hi) (g := mkF m pc Ls (.int x :: .int j :: .ref a :: rest)) rfl rfl hd
  rw [(own_idx hj).1] at X' W'
  exact own_by (fun t kk => st _ kk) (g T' h' X' e' W' (A'.set W' (fits_nar_char _)))
theorem own_bastore (X : Stand p l e R s m args below meth c T locs cells slots) (hx : p.tables.exec = Jvm.exec) (hZ : Z.Warmed39 s.vm) (eT : T.heap = h) {a : Addr} {vs : List Value} (A : own_Arr Z h a .byte vs) {j : Int32} {x : Int32} (i : Nat) (hj : j.toInt = (i : Int)) (hi : i < vs.length) (hd : decode c.code pc = .ok (.bastore, 1))
    (g : ∀ T' h', Stand p l e R s m args below meth c T' (locs ++ [⟨a, i⟩]) cells slots → T'.heap = h' → Wr h h' a i (.int (nar .byte x)) → own_Arr Z h' a .byte (vs.set i (.int (nar .byte x))) → own_Go p e below Fin T' (mkF m (pc + 1) Ls rest)) : own_Go p e below Fin T (mkF m pc Ls (.int x :: .int j :: .ref a :: rest)) := by
  have A' := A
  obtain ⟨cl, A1, r1, r2⟩ := A
  obtain ⟨T', h', X', e', W', st⟩ := stB X hx hZ eT A1 (own_inb hj r1 hi) (g := mkF m pc Ls (.int x :: .int j :: .ref a :: rest)) rfl rfl hd
  rw [(own_idx hj).1] at X' W'
  exact own_by (fun t kk => st _ kk) (g T' h' X' e' W' (A'.set W' (fits_nar_byte _)))
theorem own_lastore (X : Stand p l e R s m args below meth c T locs cells slots) (hx : p.tables.exec = Jvm.exec) (hZ : Z.Warmed39 s.vm) (eT : T.heap = h) {a : Addr} {vs : List Value} (A : own_Arr Z h a .long vs) {j : Int32} {x : Int64} (i : Nat) (hj : j.toInt = (i : Int)) (hi : i < vs.length) (hd : decode c.code pc = .ok (.lastore, 1))
    (g : ∀ T' h', Stand p l e R s m args below meth c T' (locs ++ [⟨a, i⟩]) cells slots → T'.heap = h' → Wr h h' a i (.long x) → own_Arr Z h' a .long (vs.set i (.long x)) → own_Go p e below Fin T' (mkF m (pc + 1) Ls rest)) : own_Go p e below Fin T (mkF m pc Ls (.long x :: .int j :: .ref a :: rest)) := by
  have A' := A
  obtain ⟨cl, A1, r1, r2⟩ := A
  obtain ⟨T', h', X', e', W', st⟩ := stJ X hx hZ eT A1 (own_inb hj r1 hi) (g := mkF m pc Ls (.long x :: .int j :: .ref a :: rest)) rfl rfl hd
  rw [(own_idx hj).1] at X' W'
  exact own_by (fun t kk => st _ kk) (g T' h' X' e' W' (A'.set W' rfl))
theorem own_castoreN (X : Stand p l e R s m args below meth c T locs cells slots) (hx : p.tables.exec = Jvm.exec) (hZ : Z.Warmed39 s.vm) (eT : T.heap = h) {a : Addr} {vs : List Value} (A : own_Arr Z h a .char vs) {j : Int32} {x : Int32} (hxn : nar .char x = x) (i : Nat) (hj : j.toInt = (i : Int)) (hi : i < vs.length) (hd : decode c.code pc = .ok (.castore, 1))
    (g : ∀ T' h', Stand p l e R s m args below meth c T' (locs ++ [⟨a, i⟩]) cells slots → T'.heap = h' → Wr h h' a i (.int x) → own_Arr Z h' a .char (vs.set i (.int x)) → own_Go p e below Fin T' (mkF m (pc + 1) Ls rest)) : own_Go p e below Fin T (mkF m pc Ls (.int x :: .int j :: .ref a :: rest)) :=
  own_castore X hx hZ eT A i hj hi hd (by rw [hxn]; exact g)
theorem own_alen (X : Stand p l e R s m args below meth c T locs cells slots) (hx : p.tables.exec = Jvm.exec) (hZ : Z.Warmed39 s.vm) (eT : T.heap = h) {a : Addr} {ty : FieldType} {vs : List Value} (A : own_Arr Z h a ty vs) (hd : decode c.code pc = .ok (.arraylength, 1))
    (g : own_Go p e below Fin T (mkF m (pc + 1) Ls (.int vs.length.toInt32 :: rest))) : own_Go p e below Fin T (mkF m pc Ls (.ref a :: rest)) := by
  obtain ⟨cl, A1, r1, r2⟩ := A
  have hl : cl.slots.size = vs.length := by rw [r1]; simp
  rw [← hl] at g
  exact own_by (fun t kk => X.arraylength hx (by rw [eT]; exact A1.1) (State.isArrayOf_alike hZ.alike A1.2.1) (g := mkF m pc Ls (.ref a :: rest)) rfl rfl hd _ kk) g
theorem own_Arr.nostat {a : Addr} {ty : FieldType} {vs : List Value} (F : own_Arr Z h a ty vs) : ∀ cell : Cell, h[a]? = some cell → cell.vm.isStatics = false := by obtain ⟨c, A, -⟩ := F; exact A.nostat
theorem own_exa_arr {a b : Addr} {C : String} {kk : Nat} {ty : FieldType} {vs : List Value} (F : Exa Z h a C) (wi : (Cond.instantiable C kk).before a0 Z = true) (G : own_Arr Z h b ty vs) : a ≠ b := by
  obtain ⟨c, A, -⟩ := G
  exact ne_arr F wi A
theorem own_Arr.len {a : Addr} {ty : FieldType} {vs : List Value} (F : own_Arr Z h a ty vs) : vs.length < 2 ^ 31 := by obtain ⟨c, -, -, q, -⟩ := F; exact q
theorem own_getD {vs : List Value} {i : Nat} (hi : i < vs.length) (d : Value) : vs.getD i d = vs[i] := by simp [List.getD, hi]
theorem own_Arr.arv {a : Addr} {ty : FieldType} {vs : List Value} (F : own_Arr Z h a ty vs) (dv : Value) : ∃ kk, Arv Z h a kk ty vs.length.toInt32 vs dv := by
  obtain ⟨cl, A, r1, r2, r3⟩ := F
  have e1 : vs.length.toInt32.toInt = vs.length := len_toInt r2
  have e2 := own_idx e1
  have hs : cl.slots.size = vs.length := by rw [r1]; simp
  refine ⟨cl.cls, cl, A, rfl, by rw [hs, e2.1], e2.2, fun i hi => ?_, fun i hi => ?_⟩
  · rw [hs] at hi
    rw [own_getD hi, r1]; simp [hi]
  · rw [hs] at hi
    rw [own_getD hi]; exact r3 _ (List.getElem_mem hi)
theorem own_Arr.of_arv {a : Addr} {kk : ClassId} {ty : FieldType} {z : Int32} {vs : List Value} {dv : Value} (F : Arv Z h a kk ty z vs dv) (hl : z.toNatClampNeg = vs.length) : own_Arr Z h a ty vs := by
  obtain ⟨cl, A, -, q1, q2, H, G⟩ := F
  have hs : cl.slots.size = vs.length := q1.trans hl
  refine ⟨cl, A, ?_, ?_, fun v hv => ?_⟩
  · apply Array.ext'
    apply List.ext_getElem?
    intro i
    by_cases hi : i < vs.length
    · have := H i (by rw [hs]; exact hi)
      rw [own_getD hi] at this
      have q2 : (vs.toArray.toList)[i]? = some vs[i] := by simp [hi]
      rw [q2, Array.getElem?_toList]
      exact this
    · have h1 : cl.slots.toList[i]? = none := by rw [List.getElem?_eq_none_iff]; simp; omega
      have h2 : (vs.toArray.toList)[i]? = none := by rw [List.getElem?_eq_none_iff]; simp; omega
      rw [h1, h2]
  · rw [← hl]
    have := z.toInt_lt
    show z.toInt.toNat < 2 ^ 31
    omega
  · obtain ⟨i, hi, rfl⟩ := List.getElem_of_mem hv
    have := G i (by rw [hs]; exact hi)
    rwa [own_getD hi] at this
end OwnArr
section OwnList
/-- the list us written from the place i on -/
def own_put (vs : List Value) : Nat → List Int32 → List Value
  | _, [] => vs
  | i, u :: us => own_put (vs.set i (.int u)) (i + 1) us
theorem own_put_len : ∀ (us : List Int32) (vs : List Value) (i : Nat), (own_put vs i us).length = vs.length
  | [], vs, i => rfl
  | u :: us, vs, i => by rw [own_put, own_put_len us]; simp
/-- from the place i on the array holds xs -/
def own_At (vs : List Value) : Nat → List Int32 → Prop
  | _, [] => True
  | i, x :: xs => vs[i]? = some (.int x) ∧ own_At vs (i + 1) xs
theorem own_At_app : ∀ (xs ys : List Int32) (vs : List Value) (i : Nat), own_At vs i xs → own_At vs (i + xs.length) ys → own_At vs i (xs ++ ys)
  | [], ys, vs, i, _, h => by simpa using h
  | x :: xs, ys, vs, i, h, h' => by
    have e : i + 1 + xs.length = i + (x :: xs).length := by
      simp; omega
    exact ⟨h.1, own_At_app xs ys vs (i + 1) h.2 (by rw [e]; exact h')⟩
theorem own_put_lo : ∀ (us : List Int32) (vs : List Value) (i j : Nat), j < i → (own_put vs i us)[j]? = vs[j]?
  | [], vs, i, j, _ => rfl
  | u :: us, vs, i, j, h => by rw [own_put, own_put_lo us _ _ _ (by omega), List.getElem?_set_ne (by omega)]
theorem own_put_At : ∀ (us : List Int32) (vs : List Value) (i : Nat), i + us.length ≤ vs.length → own_At (own_put vs i us) i us
  | [], vs, i, _ => trivial
  | u :: us, vs, i, h => by
    have h' : i + 1 + us.length ≤ vs.length := by simp at h; omega
    refine ⟨?_, own_put_At us _ (i + 1) (by simpa using h')⟩
    rw [own_put, own_put_lo us _ _ _ (by omega)]
    have hi : i < vs.length := by simp at h; omega
    simp [hi]
theorem own_inc {x : Int32} {i : Nat} (h : x.toInt = (i : Int)) (hi : i + 1 < 2 ^ 31) : (x + 1).toInt = ((i + 1 : Nat) : Int) := by
  have k : (1 : Int32).toInt = 1 := by decide
  have e : (x + 1).toInt = x.toInt + (1 : Int32).toInt := Jvm.Kit.i32_add (by omega) (by omega)
  rw [e, h, k]; omega
theorem own_nlt {x y : Int32} {i j : Nat} (hx : x.toInt = (i : Int)) (hy : y.toInt = (j : Int)) (q : j ≤ i) : ¬ x < y := by rw [Int32.lt_iff_toInt_lt]; omega
theorem own_ilt {x y : Int32} {i j : Nat} (hx : x.toInt = (i : Int)) (hy : y.toInt = (j : Int)) (q : i < j) : x < y := by rw [Int32.lt_iff_toInt_lt]; omega
end OwnList
section OwnRef
variable {p : Program} {l : Launch} {e : Env} {R : Room} {s : State} {m : MethodId} {args : Array Value} {below : List Frame} {meth : Method} {c : Code} {T T' : State} {locs : List Loc} {cells slots : Nat} {Fin : Outcome → State → Prop} {Z : State} {a0 : Array Value} {h h' : Heap} {pc : Nat} {Ls : Array Slot} {rest : List Value} {ws : List Addr} {a b : Addr} {C : String} {sl : Nat} {v : Value} {ty ty' : FieldType} {vs ws' : List Value}
/-- the array at a takes what the class C takes -/
def own_Ovr (Z : State) (h : Heap) (a : Addr) (C : String) : Prop := ∃ (cl : Cell) (k : Class) (comp : ClassId) (t : FieldType), h[a]? = some cl ∧ Z.vm.classes[cl.cls]? = some k ∧ k.kind = .array comp t ∧ Z.vm.findClass C = some comp
theorem own_Ovr.ext (F : own_Ovr Z h a C) (E : Ext h h') : own_Ovr Z h' a C := by obtain ⟨cl, k, cp, t, h1, r⟩ := F; exact ⟨cl, k, cp, t, E.2 _ _ h1, r⟩
theorem own_Ovr.wr (F : own_Ovr Z h a C) (W : Wr h h' b sl v) : own_Ovr Z h' a C := by
  obtain ⟨cl, k, cp, t, h1, h2, r⟩ := F
  obtain ⟨d, a1, a2, -⟩ := wr_at W h1
  exact ⟨d, k, cp, t, a1, by rw [a2]; exact h2, r⟩
theorem own_Ovr.keep (F : own_Ovr Z h a C) (K : Keep h h' ws) : own_Ovr Z h' a C := by
  obtain ⟨cl, k, cp, t, h1, h2, r⟩ := F
  obtain ⟨d, q, r1, -⟩ := K.2.2 a cl h1
  exact ⟨d, k, cp, t, q, by rw [r1]; exact h2, r⟩
theorem own_Ovr.sto {y : Addr} (F : own_Ovr Z h a C) (I : Ins Z h y C true) : Sto Z h a (.ref y) := by
  obtain ⟨cl, k, comp, t, h1, o1, o2, o3⟩ := F
  obtain ⟨cv, cT, i1, i2, i3⟩ := I
  cases o3.symm.trans i2
  simp only [Bool.and_eq_true, Bool.not_eq_true'] at i3
  obtain ⟨kc, q⟩ := Vm.classAt_of_findClass o3
  obtain ⟨kv, q2⟩ := Vm.classAt_of_assignable i3.2 ⟨kc, q⟩
  exact Or.inr ⟨cl, cv, k, kv, kc, _, _, y, h1, o1, o2, q, rfl, i1, i3.1, q2, i3.2⟩
theorem own_Arr.ne (F : own_Arr Z h a ty vs) (G : own_Arr Z h b ty' ws') (q : ty ≠ ty') : a ≠ b := by
  intro e; subst e
  obtain ⟨c1, A1, -⟩ := F
  obtain ⟨c2, A2, -⟩ := G
  cases A1.1.symm.trans A2.1
  obtain ⟨-, k1, z1, p1, x1⟩ := A1.2.1
  obtain ⟨-, k2, z2, p2, x2⟩ := A2.2.1
  cases z1.symm.trans z2
  have e := x1.symm.trans x2
  injection e with e1 e2
  exact q e2
theorem own_newRA (X : Stand p l e R s m args below meth c T locs cells slots) (hx : p.tables.exec = Jvm.exec) (hZ : Z.Warmed39 s.vm) {own : String} {index : Nat} (hown : s.vm.findClass own = some m.cls) (hC : (FieldType.array ty).toString = C) (w1 : (Cond.classLink own index C).before a0 Z = true) (w2 : (Cond.arrayOver (.array ty)).before a0 Z = true)
    (eT : T.heap = h) (hd : decode c.code pc = .ok (.anewarray index, 3)) {j : Int32} (i cap : Nat) (hj : j.toInt = (i : Int)) (hcap : i ≤ cap) (hb : cap * 8 ≤ 536870912) (hc : cells + 1 ≤ R.cells) (hl : slots + cap ≤ R.slots) {ad : String} (had : "[" ++ C = ad)
    (g : ∀ T' h' (b : Addr), Stand p l e R s m args below meth c T' locs (cells + 1) (slots + cap) → T'.heap = h' → b = h.size → Ext h h' → own_Arr Z h' b (.array ty) (List.replicate i .null) → Exa Z h' b ad → own_Ovr Z h' b C → own_Go p e below Fin T' (mkF m (pc + 3) Ls (.ref b :: rest))) : own_Go p e below Fin T (mkF m pc Ls (.int j :: rest)) := by
  obtain ⟨q1, q2⟩ := own_idx hj
  obtain ⟨T', h', cA, X', e', E', A', Ex', O', st⟩ := newRA X hx hZ hown hC w1 w2 eT (g := mkF m pc Ls (.int j :: rest)) rfl hd rfl q2 (cap := cap) (by rw [q1]; exact hcap) hb hc hl had
  refine own_by (fun t kk => st _ kk) (g T' h' _ X' e' rfl E' (own_Arr.new A' hj) Ex' ?_)
  obtain ⟨k, comp, o1, o2, o3⟩ := O'
  exact ⟨_, k, comp, _, A'.1, o1, o2, o3⟩
theorem own_newRO (X : Stand p l e R s m args below meth c T locs cells slots) (hx : p.tables.exec = Jvm.exec) (hZ : Z.Warmed39 s.vm) {own : String} {index : Nat} (hown : s.vm.findClass own = some m.cls) (w1 : (Cond.classLink own index C).before a0 Z = true) (w2 : (Cond.arrayOver (.object C)).before a0 Z = true)
    (eT : T.heap = h) (hd : decode c.code pc = .ok (.anewarray index, 3)) {j : Int32} (i cap : Nat) (hj : j.toInt = (i : Int)) (hcap : i ≤ cap) (hb : cap * 8 ≤ 536870912) (hc : cells + 1 ≤ R.cells) (hl : slots + cap ≤ R.slots) {ad : String} (had : "[" ++ (FieldType.object C).toString = ad)
    (g : ∀ T' h' (b : Addr), Stand p l e R s m args below meth c T' locs (cells + 1) (slots + cap) → T'.heap = h' → b = h.size → Ext h h' → own_Arr Z h' b (.object C) (List.replicate i .null) → Exa Z h' b ad → own_Ovr Z h' b C → own_Go p e below Fin T' (mkF m (pc + 3) Ls (.ref b :: rest))) : own_Go p e below Fin T (mkF m pc Ls (.int j :: rest)) := by
  obtain ⟨q1, q2⟩ := own_idx hj
  obtain ⟨T', h', cA, X', e', E', A', Ex', O', st⟩ := newRE X hx hZ hown w1 w2 eT (g := mkF m pc Ls (.int j :: rest)) rfl hd rfl q2 (cap := cap) (by rw [q1]; exact hcap) hb hc hl had
  refine own_by (fun t kk => st _ kk) (g T' h' _ X' e' rfl E' (own_Arr.new A' hj) Ex' ?_)
  obtain ⟨k, comp, o1, o2, o3⟩ := O'
  exact ⟨_, k, comp, _, A'.1, o1, o2, o3⟩
theorem own_newPE (X : Stand p l e R s m args below meth c T locs cells slots) (hx : p.tables.exec = Jvm.exec) (hZ : Z.Warmed39 s.vm) {aty : ArrayType} (w : (Cond.arrayClass (newarray.typeOf aty)).before a0 Z = true) (eT : T.heap = h) (hd : decode c.code pc = .ok (.newarray aty, 2)) {j : Int32} (i cap : Nat) (hj : j.toInt = (i : Int)) (hcap : i ≤ cap) (hb : cap * 8 ≤ 536870912) (hc : cells + 1 ≤ R.cells) (hl : slots + cap ≤ R.slots) {ad : String} (had : "[" ++ (newarray.typeOf aty).toString = ad)
    (g : ∀ T' h' (b : Addr), Stand p l e R s m args below meth c T' locs (cells + 1) (slots + cap) → T'.heap = h' → b = h.size → Ext h h' → own_Arr Z h' b (newarray.typeOf aty) (List.replicate i (defaultValue (newarray.typeOf aty))) → Exa Z h' b ad → own_Go p e below Fin T' (mkF m (pc + 2) Ls (.ref b :: rest))) : own_Go p e below Fin T (mkF m pc Ls (.int j :: rest)) := by
  obtain ⟨q1, q2⟩ := own_idx hj
  obtain ⟨T', h', cA, X', e', E', A', Ex', st⟩ := newPE X hx hZ w eT (g := mkF m pc Ls (.int j :: rest)) rfl hd rfl q2 (cap := cap) (by rw [q1]; exact hcap) hb hc hl had
  exact own_by (fun t kk => st _ kk) (g T' h' _ X' e' rfl E' (own_Arr.new A' hj) Ex')
theorem own_aaload (X : Stand p l e R s m args below meth c T locs cells slots) (hx : p.tables.exec = Jvm.exec) (hZ : Z.Warmed39 s.vm) (eT : T.heap = h) (A : own_Arr Z h a ty vs) (hty : ty.isReference = true) {j : Int32} {v : Value} (i : Nat) (hj : j.toInt = (i : Int)) (hv : vs[i]? = some v) (hd : decode c.code pc = .ok (.aaload, 1))
    (g : own_Go p e below Fin T (mkF m (pc + 1) Ls (v :: rest))) : own_Go p e below Fin T (mkF m pc Ls (.int j :: .ref a :: rest)) := by
  obtain ⟨cl, A1, r1, r2⟩ := A
  exact own_by (fun t kk => X.aaload hx (j := j) (v := v) (by rw [eT]; exact A1.1) (State.isArrayOf_alike hZ.alike A1.2.1) hty A1.2.2 (own_inb hj r1 (own_lt_of hv)) (by rw [(own_idx hj).1, r1]; simpa using hv) (g := mkF m pc Ls (.int j :: .ref a :: rest)) rfl rfl hd _ kk) g
theorem own_aastore (X : Stand p l e R s m args below meth c T locs cells slots) (hx : p.tables.exec = Jvm.exec) (hZ : Z.Warmed39 s.vm) (eT : T.heap = h) (A : own_Arr Z h a ty vs) (hty : ty.isReference = true) (F : Sto Z h a v) (hfit : fits ty v = true) {j : Int32} (i : Nat) (hj : j.toInt = (i : Int)) (hi : i < vs.length) (hd : decode c.code pc = .ok (.aastore, 1))
    (g : ∀ T' h', Stand p l e R s m args below meth c T' (locs ++ [⟨a, i⟩]) cells slots → T'.heap = h' → Wr h h' a i v → own_Arr Z h' a ty (vs.set i v) → own_Go p e below Fin T' (mkF m (pc + 1) Ls rest)) : own_Go p e below Fin T (mkF m pc Ls (v :: .int j :: .ref a :: rest)) := by
  have A' := A
  obtain ⟨cl, A1, r1, r2⟩ := A
  obtain ⟨T', h', X', e', W', st⟩ := stR X hx hZ eT A1 (own_inb hj r1 hi) hty F (g := mkF m pc Ls (v :: .int j :: .ref a :: rest)) rfl rfl hd
  rw [(own_idx hj).1] at X' W'
  exact own_by (fun t kk => st _ kk) (g T' h' X' e' W' (A'.set W' hfit))
theorem own_alenK (X : Stand p l e R s m args below meth c T locs cells slots) (hx : p.tables.exec = Jvm.exec) (hZ : Z.Warmed39 s.vm) (eT : T.heap = h) (A : own_Arr Z h a ty vs) {j : Int32} (i : Nat) (hi : vs.length = i) (hj : i.toInt32 = j) (hd : decode c.code pc = .ok (.arraylength, 1))
    (g : own_Go p e below Fin T (mkF m (pc + 1) Ls (.int j :: rest))) : own_Go p e below Fin T (mkF m pc Ls (.ref a :: rest)) := by
  subst hj; subst hi
  exact own_alen X hx hZ eT A hd g
end OwnRef
section OwnStep
variable {p : Program} {l : Launch} {e : Env} {R : Room} {s : State} {m : MethodId} {args : Array Value} {below : List Frame} {meth : Method} {c : Code} {T : State} {locs : List Loc} {cells slots : Nat} {Fin : Outcome → State → Prop} {pc : Nat} {Ls : Array Slot} {rest : List Value}
theorem own_dup2x2 (X : Stand p l e R s m args below meth c T locs cells slots) (hx : p.tables.exec = Jvm.exec) {v : Int64} {y z : Value} (hy : y.category = 1) (hz : z.category = 1) (hd : decode c.code pc = .ok (.dup2_x2, 1))
    (g : own_Go p e below Fin T (mkF m (pc + 1) Ls (.long v :: y :: z :: .long v :: rest))) : own_Go p e below Fin T (mkF m pc Ls (.long v :: y :: z :: rest)) := by
  refine own_by (fun t kk => ?_) g
  show Steps p.tables e below (T.setTop { method := m, pc := pc, locals := Ls, stack := .long v :: y :: z :: rest, locked := none }) t
  have hv : (Value.long v).category = 2 := rfl
  have hy' : ¬ y.category = 2 := by rw [hy]; decide
  jvm_step X.here [X.here.top, hx, hd, dup2_x2.wp_sem, hv, hy', hz]
  exact kk
theorem own_lsw (X : Stand p l e R s m args below meth c T locs cells slots) (hx : p.tables.exec = Jvm.exec) {dflt : Int} {prs : Array (Int × Int)} {len pc' : Nat} {i : Int32} {o : Int} (hso : ∀ (a b a' b' : Int), ((a, b), a', b') ∈ prs.toList.zip prs.toList.tail → a < a') (ho : lookupswitch.offset prs.toList dflt i.toInt = o) (h0 : 0 ≤ (pc : Int) + o) (hp : ((pc : Int) + o).toNat = pc') (hd : decode c.code pc = .ok (.lookupswitch dflt prs, len))
    (g : own_Go p e below Fin T (mkF m pc' Ls rest)) : own_Go p e below Fin T (mkF m pc Ls (.int i :: rest)) := by
  subst hp
  refine own_by (fun t kk => ?_) g
  show Steps p.tables e below (T.setTop { method := m, pc := pc, locals := Ls, stack := .int i :: rest, locked := none }) t
  jvm_step X.here [X.here.top, hx, hd, lookupswitch.wp_chain, ho, h0]
  exact ⟨hso, kk⟩
theorem own_pop2 (X : Stand p l e R s m args below meth c T locs cells slots) (hx : p.tables.exec = Jvm.exec) {v : Int64} (hd : decode c.code pc = .ok (.pop2, 1))
    (g : own_Go p e below Fin T (mkF m (pc + 1) Ls rest)) : own_Go p e below Fin T (mkF m pc Ls (.long v :: rest)) := by
  refine own_by (fun t kk => ?_) g
  show Steps p.tables e below (T.setTop { method := m, pc := pc, locals := Ls, stack := .long v :: rest, locked := none }) t
  have hv : (Value.long v).category = 2 := rfl
  jvm_step X.here [X.here.top, hx, hd, pop2.wp_sem, hv]
  exact kk
end OwnStep
theorem pn_3 : plainName "java/lang/StringLatin1" = true := by first | (simp [plainName, overriddenIn]; done) | decide +kernel
theorem d3_0 : decode jdk_43_method_3_code 0 = .ok (.iload_n 0, 1) := by decide +kernel
theorem d3_1 : decode jdk_43_method_3_code 1 = .ok (.sipush 255, 3) := by decide +kernel
theorem d3_4 : decode jdk_43_method_3_code 4 = .ok (.if_icmp .gt 7, 3) := by decide +kernel
theorem d3_7 : decode jdk_43_method_3_code 7 = .ok (.iconst 1, 1) := by decide +kernel
theorem d3_8 : decode jdk_43_method_3_code 8 = .ok (.goto 4, 3) := by decide +kernel
theorem d3_12 : decode jdk_43_method_3_code 12 = .ok (.ireturn, 1) := by decide +kernel
theorem d4_0 : decode jdk_43_method_46_code 0 = .ok (.iconst 1, 1) := by decide +kernel
theorem d4_1 : decode jdk_43_method_46_code 1 = .ok (.newarray .byte, 2) := by decide +kernel
theorem d4_3 : decode jdk_43_method_46_code 3 = .ok (.dup, 1) := by decide +kernel
theorem d4_4 : decode jdk_43_method_46_code 4 = .ok (.iconst 0, 1) := by decide +kernel
theorem d4_5 : decode jdk_43_method_46_code 5 = .ok (.iload_n 0, 1) := by decide +kernel
theorem d4_6 : decode jdk_43_method_46_code 6 = .ok (.i2b, 1) := by decide +kernel
theorem d4_7 : decode jdk_43_method_46_code 7 = .ok (.bastore, 1) := by decide +kernel
theorem d4_8 : decode jdk_43_method_46_code 8 = .ok (.areturn, 1) := by decide +kernel
theorem pn_2 : plainName "java/lang/String" = true := by first | (simp [plainName, overriddenIn]; done) | decide +kernel
theorem d5_0 : decode jdk_42_method_151_code 0 = .ok (.aload_n 0, 1) := by decide +kernel
theorem d5_1 : decode jdk_42_method_151_code 1 = .ok (.invokespecial 1, 3) := by decide +kernel
theorem d5_4 : decode jdk_42_method_151_code 4 = .ok (.aload_n 0, 1) := by decide +kernel
theorem d5_5 : decode jdk_42_method_151_code 5 = .ok (.aload_n 1, 1) := by decide +kernel
theorem d5_6 : decode jdk_42_method_151_code 6 = .ok (.putfield 9, 3) := by decide +kernel
theorem d5_9 : decode jdk_42_method_151_code 9 = .ok (.aload_n 0, 1) := by decide +kernel
theorem d5_10 : decode jdk_42_method_151_code 10 = .ok (.iload_n 2, 1) := by decide +kernel
theorem d5_11 : decode jdk_42_method_151_code 11 = .ok (.putfield 15, 3) := by decide +kernel
theorem d5_14 : decode jdk_42_method_151_code 14 = .ok (.return_, 1) := by decide +kernel
theorem d2_0 : decode jdk_42_method_139_code 0 = .ok (.getstatic 38, 3) := by decide +kernel
theorem d2_3 : decode jdk_42_method_139_code 3 = .ok (.ifCond .eq 23, 3) := by decide +kernel
theorem d2_6 : decode jdk_42_method_139_code 6 = .ok (.iload_n 0, 1) := by decide +kernel
theorem d2_7 : decode jdk_42_method_139_code 7 = .ok (.invokestatic 1015, 3) := by decide +kernel
theorem pd_2 : parseMethodDescriptor "(C)Z" = some ⟨[.char], some .boolean⟩ := by decide +kernel
theorem d2_10 : decode jdk_42_method_139_code 10 = .ok (.ifCond .eq 16, 3) := by decide +kernel
theorem d2_13 : decode jdk_42_method_139_code 13 = .ok (.new 10, 3) := by decide +kernel
theorem d2_16 : decode jdk_42_method_139_code 16 = .ok (.dup, 1) := by decide +kernel
theorem d2_17 : decode jdk_42_method_139_code 17 = .ok (.iload_n 0, 1) := by decide +kernel
theorem d2_18 : decode jdk_42_method_139_code 18 = .ok (.invokestatic 1018, 3) := by decide +kernel
theorem pd_3 : parseMethodDescriptor "(C)[B" = some ⟨[.char], some (.array .byte)⟩ := by decide +kernel
theorem d2_21 : decode jdk_42_method_139_code 21 = .ok (.iconst 0, 1) := by decide +kernel
theorem d2_22 : decode jdk_42_method_139_code 22 = .ok (.invokespecial 209, 3) := by decide +kernel
theorem pd_4 : parseMethodDescriptor "([BB)V" = some ⟨[(.array .byte), .byte], none⟩ := by decide +kernel
theorem d2_25 : decode jdk_42_method_139_code 25 = .ok (.areturn, 1) := by decide +kernel
theorem pn_0 : plainName "com/example/hedgewalk/hedgewalk/input/ChildCountsClearPinLaw" = true := by first | (simp [plainName, overriddenIn]; done) | decide +kernel
theorem d1_0 : decode method_2_code 0 = .ok (.iload_n 0, 1) := by decide +kernel
theorem d1_1 : decode method_2_code 1 = .ok (.sipush 255, 3) := by decide +kernel
theorem d1_4 : decode method_2_code 4 = .ok (.iand, 1) := by decide +kernel
theorem d1_5 : decode method_2_code 5 = .ok (.i2c, 1) := by decide +kernel
theorem d1_6 : decode method_2_code 6 = .ok (.invokestatic 7, 3) := by decide +kernel
theorem pd_1 : parseMethodDescriptor "(C)Ljava/lang/String;" = some ⟨[.char], some (.object "java/lang/String")⟩ := by decide +kernel
theorem d1_9 : decode method_2_code 9 = .ok (.areturn, 1) := by decide +kernel
theorem d11_0 : decode jdk_42_method_154_code 0 = .ok (.getstatic 38, 3) := by decide +kernel
theorem d11_3 : decode jdk_42_method_154_code 3 = .ok (.ifCond .eq 14, 3) := by decide +kernel
theorem d11_6 : decode jdk_42_method_154_code 6 = .ok (.aload_n 0, 1) := by decide +kernel
theorem d11_7 : decode jdk_42_method_154_code 7 = .ok (.getfield 15, 3) := by decide +kernel
theorem d11_10 : decode jdk_42_method_154_code 10 = .ok (.ifCond .ne 7, 3) := by decide +kernel
theorem d11_13 : decode jdk_42_method_154_code 13 = .ok (.iconst 1, 1) := by decide +kernel
theorem d11_14 : decode jdk_42_method_154_code 14 = .ok (.goto 4, 3) := by decide +kernel
theorem d11_18 : decode jdk_42_method_154_code 18 = .ok (.ireturn, 1) := by decide +kernel
theorem d12_0 : decode jdk_43_method_21_code 0 = .ok (.aload_n 0, 1) := by decide +kernel
theorem d12_1 : decode jdk_43_method_21_code 1 = .ok (.arraylength, 1) := by decide +kernel
theorem d12_2 : decode jdk_43_method_21_code 2 = .ok (.lookupswitch 40 #[(0, 26), (1, 30)], 26) := by decide +kernel
theorem d12_32 : decode jdk_43_method_21_code 32 = .ok (.aload_n 0, 1) := by decide +kernel
theorem d12_33 : decode jdk_43_method_21_code 33 = .ok (.iconst 0, 1) := by decide +kernel
theorem d12_34 : decode jdk_43_method_21_code 34 = .ok (.baload, 1) := by decide +kernel
theorem d12_35 : decode jdk_43_method_21_code 35 = .ok (.sipush 255, 3) := by decide +kernel
theorem d12_38 : decode jdk_43_method_21_code 38 = .ok (.iand, 1) := by decide +kernel
theorem d12_39 : decode jdk_43_method_21_code 39 = .ok (.goto 12, 3) := by decide +kernel
theorem d12_51 : decode jdk_43_method_21_code 51 = .ok (.ireturn, 1) := by decide +kernel
theorem d10_0 : decode jdk_42_method_78_code 0 = .ok (.aload_n 0, 1) := by decide +kernel
theorem d10_1 : decode jdk_42_method_78_code 1 = .ok (.getfield 19, 3) := by decide +kernel
theorem d10_4 : decode jdk_42_method_78_code 4 = .ok (.istore_n 1, 1) := by decide +kernel
theorem d10_5 : decode jdk_42_method_78_code 5 = .ok (.iload_n 1, 1) := by decide +kernel
theorem d10_6 : decode jdk_42_method_78_code 6 = .ok (.ifCond .ne 52, 3) := by decide +kernel
theorem d10_58 : decode jdk_42_method_78_code 58 = .ok (.iload_n 1, 1) := by decide +kernel
theorem d10_59 : decode jdk_42_method_78_code 59 = .ok (.ireturn, 1) := by decide +kernel
theorem d10_9 : decode jdk_42_method_78_code 9 = .ok (.aload_n 0, 1) := by decide +kernel
theorem d10_10 : decode jdk_42_method_78_code 10 = .ok (.getfield 23, 3) := by decide +kernel
theorem d10_13 : decode jdk_42_method_78_code 13 = .ok (.ifCond .ne 45, 3) := by decide +kernel
theorem d10_16 : decode jdk_42_method_78_code 16 = .ok (.aload_n 0, 1) := by decide +kernel
theorem d10_17 : decode jdk_42_method_78_code 17 = .ok (.invokevirtual 492, 3) := by decide +kernel
theorem pd_9 : parseMethodDescriptor "()Z" = some ⟨[], some .boolean⟩ := by decide +kernel
theorem d10_20 : decode jdk_42_method_78_code 20 = .ok (.ifCond .eq 13, 3) := by decide +kernel
theorem d10_23 : decode jdk_42_method_78_code 23 = .ok (.aload_n 0, 1) := by decide +kernel
theorem d10_24 : decode jdk_42_method_78_code 24 = .ok (.getfield 9, 3) := by decide +kernel
theorem d10_27 : decode jdk_42_method_78_code 27 = .ok (.invokestatic 628, 3) := by decide +kernel
theorem pd_10 : parseMethodDescriptor "([B)I" = some ⟨[(.array .byte)], some .int⟩ := by decide +kernel
theorem d10_30 : decode jdk_42_method_78_code 30 = .ok (.goto 10, 3) := by decide +kernel
theorem d10_40 : decode jdk_42_method_78_code 40 = .ok (.istore_n 1, 1) := by decide +kernel
theorem d10_41 : decode jdk_42_method_78_code 41 = .ok (.iload_n 1, 1) := by decide +kernel
theorem d10_42 : decode jdk_42_method_78_code 42 = .ok (.ifCond .ne 11, 3) := by decide +kernel
theorem d10_53 : decode jdk_42_method_78_code 53 = .ok (.aload_n 0, 1) := by decide +kernel
theorem d10_54 : decode jdk_42_method_78_code 54 = .ok (.iload_n 1, 1) := by decide +kernel
theorem d10_55 : decode jdk_42_method_78_code 55 = .ok (.putfield 19, 3) := by decide +kernel
theorem d10_45 : decode jdk_42_method_78_code 45 = .ok (.aload_n 0, 1) := by decide +kernel
theorem d10_46 : decode jdk_42_method_78_code 46 = .ok (.iconst 1, 1) := by decide +kernel
theorem d10_47 : decode jdk_42_method_78_code 47 = .ok (.putfield 23, 3) := by decide +kernel
theorem d10_50 : decode jdk_42_method_78_code 50 = .ok (.goto 8, 3) := by decide +kernel
theorem d14_9 : decode jdk_43_method_13_code 9 = .ok (.iload_n 2, 1) := by decide +kernel
theorem d14_10 : decode jdk_43_method_13_code 10 = .ok (.aload_n 0, 1) := by decide +kernel
theorem d14_11 : decode jdk_43_method_13_code 11 = .ok (.arraylength, 1) := by decide +kernel
theorem d14_12 : decode jdk_43_method_13_code 12 = .ok (.if_icmp .ge 20, 3) := by decide +kernel
theorem d14_32 : decode jdk_43_method_13_code 32 = .ok (.iconst 1, 1) := by decide +kernel
theorem d14_33 : decode jdk_43_method_13_code 33 = .ok (.ireturn, 1) := by decide +kernel
theorem d14_15 : decode jdk_43_method_13_code 15 = .ok (.aload_n 0, 1) := by decide +kernel
theorem d14_16 : decode jdk_43_method_13_code 16 = .ok (.iload_n 2, 1) := by decide +kernel
theorem d14_17 : decode jdk_43_method_13_code 17 = .ok (.baload, 1) := by decide +kernel
theorem d14_18 : decode jdk_43_method_13_code 18 = .ok (.aload_n 1, 1) := by decide +kernel
theorem d14_19 : decode jdk_43_method_13_code 19 = .ok (.iload_n 2, 1) := by decide +kernel
theorem d14_20 : decode jdk_43_method_13_code 20 = .ok (.baload, 1) := by decide +kernel
theorem d14_21 : decode jdk_43_method_13_code 21 = .ok (.if_icmp .eq 5, 3) := by decide +kernel
theorem d14_26 : decode jdk_43_method_13_code 26 = .ok (.iinc 2 1, 3) := by decide +kernel
theorem d14_29 : decode jdk_43_method_13_code 29 = .ok (.goto (-20), 3) := by decide +kernel
theorem d14_24 : decode jdk_43_method_13_code 24 = .ok (.iconst 0, 1) := by decide +kernel
theorem d14_25 : decode jdk_43_method_13_code 25 = .ok (.ireturn, 1) := by decide +kernel
theorem d14_0 : decode jdk_43_method_13_code 0 = .ok (.aload_n 0, 1) := by decide +kernel
theorem d14_1 : decode jdk_43_method_13_code 1 = .ok (.arraylength, 1) := by decide +kernel
theorem d14_2 : decode jdk_43_method_13_code 2 = .ok (.aload_n 1, 1) := by decide +kernel
theorem d14_3 : decode jdk_43_method_13_code 3 = .ok (.arraylength, 1) := by decide +kernel
theorem d14_4 : decode jdk_43_method_13_code 4 = .ok (.if_icmp .ne 30, 3) := by decide +kernel
theorem d14_34 : decode jdk_43_method_13_code 34 = .ok (.iconst 0, 1) := by decide +kernel
theorem d14_35 : decode jdk_43_method_13_code 35 = .ok (.ireturn, 1) := by decide +kernel
theorem d14_7 : decode jdk_43_method_13_code 7 = .ok (.iconst 0, 1) := by decide +kernel
theorem d14_8 : decode jdk_43_method_13_code 8 = .ok (.istore_n 2, 1) := by decide +kernel
theorem d13_0 : decode jdk_42_method_66_code 0 = .ok (.aload_n 0, 1) := by decide +kernel
theorem d13_1 : decode jdk_42_method_66_code 1 = .ok (.aload_n 1, 1) := by decide +kernel
theorem d13_2 : decode jdk_42_method_66_code 2 = .ok (.if_acmp .ne 5, 3) := by decide +kernel
theorem d13_7 : decode jdk_42_method_66_code 7 = .ok (.aload_n 1, 1) := by decide +kernel
theorem d13_8 : decode jdk_42_method_66_code 8 = .ok (.instanceof 10, 3) := by decide +kernel
theorem d13_11 : decode jdk_42_method_66_code 11 = .ok (.ifCond .eq 43, 3) := by decide +kernel
theorem d13_14 : decode jdk_42_method_66_code 14 = .ok (.aload_n 1, 1) := by decide +kernel
theorem d13_15 : decode jdk_42_method_66_code 15 = .ok (.checkcast 10, 3) := by decide +kernel
theorem d13_18 : decode jdk_42_method_66_code 18 = .ok (.astore_n 2, 1) := by decide +kernel
theorem d13_19 : decode jdk_42_method_66_code 19 = .ok (.getstatic 38, 3) := by decide +kernel
theorem d13_22 : decode jdk_42_method_66_code 22 = .ok (.ifCond .eq 14, 3) := by decide +kernel
theorem d13_25 : decode jdk_42_method_66_code 25 = .ok (.aload_n 0, 1) := by decide +kernel
theorem d13_26 : decode jdk_42_method_66_code 26 = .ok (.getfield 15, 3) := by decide +kernel
theorem d13_29 : decode jdk_42_method_66_code 29 = .ok (.aload_n 2, 1) := by decide +kernel
theorem d13_30 : decode jdk_42_method_66_code 30 = .ok (.getfield 15, 3) := by decide +kernel
theorem d13_33 : decode jdk_42_method_66_code 33 = .ok (.if_icmp .ne 21, 3) := by decide +kernel
theorem d13_36 : decode jdk_42_method_66_code 36 = .ok (.aload_n 0, 1) := by decide +kernel
theorem d13_37 : decode jdk_42_method_66_code 37 = .ok (.getfield 9, 3) := by decide +kernel
theorem d13_40 : decode jdk_42_method_66_code 40 = .ok (.aload_n 2, 1) := by decide +kernel
theorem d13_41 : decode jdk_42_method_66_code 41 = .ok (.getfield 9, 3) := by decide +kernel
theorem d13_44 : decode jdk_42_method_66_code 44 = .ok (.invokestatic 541, 3) := by decide +kernel
theorem pd_12 : parseMethodDescriptor "([B[B)Z" = some ⟨[(.array .byte), (.array .byte)], some .boolean⟩ := by decide +kernel
theorem d13_47 : decode jdk_42_method_66_code 47 = .ok (.ifCond .eq 7, 3) := by decide +kernel
theorem d13_54 : decode jdk_42_method_66_code 54 = .ok (.iconst 0, 1) := by decide +kernel
theorem d13_55 : decode jdk_42_method_66_code 55 = .ok (.ireturn, 1) := by decide +kernel
theorem d13_50 : decode jdk_42_method_66_code 50 = .ok (.iconst 1, 1) := by decide +kernel
theorem d13_51 : decode jdk_42_method_66_code 51 = .ok (.goto 4, 3) := by decide +kernel
theorem d13_5 : decode jdk_42_method_66_code 5 = .ok (.iconst 1, 1) := by decide +kernel
theorem d13_6 : decode jdk_42_method_66_code 6 = .ok (.ireturn, 1) := by decide +kernel
theorem pn_7 : plainName "com/example/hedgewalk/hedgewalk/input/ChildCounts" = true := by first | (simp [plainName, overriddenIn]; done) | decide +kernel
theorem d7_0 : decode prog_87_method_1_code 0 = .ok (.aload_n 0, 1) := by decide +kernel
theorem d7_1 : decode prog_87_method_1_code 1 = .ok (.invokespecial 1, 3) := by decide +kernel
theorem d7_4 : decode prog_87_method_1_code 4 = .ok (.aload_n 0, 1) := by decide +kernel
theorem d7_5 : decode prog_87_method_1_code 5 = .ok (.bipush 8, 2) := by decide +kernel
theorem d7_7 : decode prog_87_method_1_code 7 = .ok (.anewarray 9, 3) := by decide +kernel
theorem d7_10 : decode prog_87_method_1_code 10 = .ok (.putfield 11, 3) := by decide +kernel
theorem d7_13 : decode prog_87_method_1_code 13 = .ok (.aload_n 0, 1) := by decide +kernel
theorem d7_14 : decode prog_87_method_1_code 14 = .ok (.bipush 8, 2) := by decide +kernel
theorem d7_16 : decode prog_87_method_1_code 16 = .ok (.newarray .long, 2) := by decide +kernel
theorem d7_18 : decode prog_87_method_1_code 18 = .ok (.putfield 15, 3) := by decide +kernel
theorem d7_21 : decode prog_87_method_1_code 21 = .ok (.aload_n 0, 1) := by decide +kernel
theorem d7_22 : decode prog_87_method_1_code 22 = .ok (.iconst 4, 1) := by decide +kernel
theorem d7_23 : decode prog_87_method_1_code 23 = .ok (.newarray .int, 2) := by decide +kernel
theorem d7_25 : decode prog_87_method_1_code 25 = .ok (.putfield 19, 3) := by decide +kernel
theorem d7_28 : decode prog_87_method_1_code 28 = .ok (.return_, 1) := by decide +kernel
theorem d9_23 : decode prog_87_method_4_code 23 = .ok (.aload_n 0, 1) := by decide +kernel
theorem d9_24 : decode prog_87_method_4_code 24 = .ok (.getfield 11, 3) := by decide +kernel
theorem d9_27 : decode prog_87_method_4_code 27 = .ok (.iload 4, 2) := by decide +kernel
theorem d9_29 : decode prog_87_method_4_code 29 = .ok (.aaload, 1) := by decide +kernel
theorem d9_30 : decode prog_87_method_4_code 30 = .ok (.ifnull 39, 3) := by decide +kernel
theorem d9_69 : decode prog_87_method_4_code 69 = .ok (.iload 4, 2) := by decide +kernel
theorem d9_71 : decode prog_87_method_4_code 71 = .ok (.ireturn, 1) := by decide +kernel
theorem d9_33 : decode prog_87_method_4_code 33 = .ok (.aload_n 0, 1) := by decide +kernel
theorem d9_34 : decode prog_87_method_4_code 34 = .ok (.getfield 11, 3) := by decide +kernel
theorem d9_37 : decode prog_87_method_4_code 37 = .ok (.iload 4, 2) := by decide +kernel
theorem d9_39 : decode prog_87_method_4_code 39 = .ok (.aaload, 1) := by decide +kernel
theorem d9_40 : decode prog_87_method_4_code 40 = .ok (.aload_n 1, 1) := by decide +kernel
theorem d9_41 : decode prog_87_method_4_code 41 = .ok (.if_acmp .eq 28, 3) := by decide +kernel
theorem d9_44 : decode prog_87_method_4_code 44 = .ok (.aload_n 0, 1) := by decide +kernel
theorem d9_45 : decode prog_87_method_4_code 45 = .ok (.getfield 11, 3) := by decide +kernel
theorem d9_48 : decode prog_87_method_4_code 48 = .ok (.iload 4, 2) := by decide +kernel
theorem d9_50 : decode prog_87_method_4_code 50 = .ok (.aaload, 1) := by decide +kernel
theorem d9_51 : decode prog_87_method_4_code 51 = .ok (.aload_n 1, 1) := by decide +kernel
theorem d9_52 : decode prog_87_method_4_code 52 = .ok (.invokevirtual 38, 3) := by decide +kernel
theorem pd_11 : parseMethodDescriptor "(Ljava/lang/Object;)Z" = some ⟨[(.object "java/lang/Object")], some .boolean⟩ := by decide +kernel
theorem d9_55 : decode prog_87_method_4_code 55 = .ok (.ifCond .ne 14, 3) := by decide +kernel
theorem d9_58 : decode prog_87_method_4_code 58 = .ok (.iload 4, 2) := by decide +kernel
theorem d9_60 : decode prog_87_method_4_code 60 = .ok (.iconst 1, 1) := by decide +kernel
theorem d9_61 : decode prog_87_method_4_code 61 = .ok (.iadd, 1) := by decide +kernel
theorem d9_62 : decode prog_87_method_4_code 62 = .ok (.iload_n 2, 1) := by decide +kernel
theorem d9_63 : decode prog_87_method_4_code 63 = .ok (.iand, 1) := by decide +kernel
theorem d9_64 : decode prog_87_method_4_code 64 = .ok (.istore 4, 2) := by decide +kernel
theorem d9_66 : decode prog_87_method_4_code 66 = .ok (.goto (-43), 3) := by decide +kernel
theorem d9_0 : decode prog_87_method_4_code 0 = .ok (.aload_n 0, 1) := by decide +kernel
theorem d9_1 : decode prog_87_method_4_code 1 = .ok (.getfield 11, 3) := by decide +kernel
theorem d9_4 : decode prog_87_method_4_code 4 = .ok (.arraylength, 1) := by decide +kernel
theorem d9_5 : decode prog_87_method_4_code 5 = .ok (.iconst 1, 1) := by decide +kernel
theorem d9_6 : decode prog_87_method_4_code 6 = .ok (.isub, 1) := by decide +kernel
theorem d9_7 : decode prog_87_method_4_code 7 = .ok (.istore_n 2, 1) := by decide +kernel
theorem d9_8 : decode prog_87_method_4_code 8 = .ok (.aload_n 1, 1) := by decide +kernel
theorem d9_9 : decode prog_87_method_4_code 9 = .ok (.invokevirtual 34, 3) := by decide +kernel
theorem pd_8 : parseMethodDescriptor "()I" = some ⟨[], some .int⟩ := by decide +kernel
theorem d9_12 : decode prog_87_method_4_code 12 = .ok (.istore_n 3, 1) := by decide +kernel
theorem d9_13 : decode prog_87_method_4_code 13 = .ok (.iload_n 3, 1) := by decide +kernel
theorem d9_14 : decode prog_87_method_4_code 14 = .ok (.iload_n 3, 1) := by decide +kernel
theorem d9_15 : decode prog_87_method_4_code 15 = .ok (.bipush 16, 2) := by decide +kernel
theorem d9_17 : decode prog_87_method_4_code 17 = .ok (.iushr, 1) := by decide +kernel
theorem d9_18 : decode prog_87_method_4_code 18 = .ok (.ixor, 1) := by decide +kernel
theorem d9_19 : decode prog_87_method_4_code 19 = .ok (.iload_n 2, 1) := by decide +kernel
theorem d9_20 : decode prog_87_method_4_code 20 = .ok (.iand, 1) := by decide +kernel
theorem d9_21 : decode prog_87_method_4_code 21 = .ok (.istore 4, 2) := by decide +kernel
theorem d16_0 : decode method_3_code 0 = .ok (.aload_n 0, 1) := by decide +kernel
theorem d16_1 : decode method_3_code 1 = .ok (.aload_n 1, 1) := by decide +kernel
theorem d16_2 : decode method_3_code 2 = .ok (.invokevirtual 13, 3) := by decide +kernel
theorem d16_5 : decode method_3_code 5 = .ok (.ifCond .eq 7, 3) := by decide +kernel
theorem d16_12 : decode method_3_code 12 = .ok (.lconst 0, 1) := by decide +kernel
theorem d16_13 : decode method_3_code 13 = .ok (.lreturn, 1) := by decide +kernel
theorem d16_8 : decode method_3_code 8 = .ok (.lconst 1, 1) := by decide +kernel
theorem d16_9 : decode method_3_code 9 = .ok (.goto 4, 3) := by decide +kernel
theorem pd_0 : parseMethodDescriptor "(I)Ljava/lang/String;" = some ⟨[.int], some (.object "java/lang/String")⟩ := by decide +kernel
theorem pd_5 : parseMethodDescriptor "()V" = some ⟨[], none⟩ := by decide +kernel
theorem pd_6 : parseMethodDescriptor "(Ljava/lang/String;)J" = some ⟨[(.object "java/lang/String")], some .long⟩ := by decide +kernel
theorem pd_13 : parseMethodDescriptor "(Ljava/lang/String;Ljava/lang/String;)J" = some ⟨[(.object "java/lang/String"), (.object "java/lang/String")], some .long⟩ := by decide +kernel
theorem d17_53 : decode prog_87_method_5_code 53 = .ok (.iload 4, 2) := by decide +kernel
theorem d17_55 : decode prog_87_method_5_code 55 = .ok (.aload_n 0, 1) := by decide +kernel
theorem d17_56 : decode prog_87_method_5_code 56 = .ok (.getfield 27, 3) := by decide +kernel
theorem d17_59 : decode prog_87_method_5_code 59 = .ok (.if_icmp .ge 56, 3) := by decide +kernel
theorem d17_115 : decode prog_87_method_5_code 115 = .ok (.return_, 1) := by decide +kernel
theorem d17_62 : decode prog_87_method_5_code 62 = .ok (.aload_n 0, 1) := by decide +kernel
theorem d17_63 : decode prog_87_method_5_code 63 = .ok (.aload_n 1, 1) := by decide +kernel
theorem d17_64 : decode prog_87_method_5_code 64 = .ok (.aload_n 3, 1) := by decide +kernel
theorem d17_65 : decode prog_87_method_5_code 65 = .ok (.iload 4, 2) := by decide +kernel
theorem d17_67 : decode prog_87_method_5_code 67 = .ok (.iaload, 1) := by decide +kernel
theorem d17_68 : decode prog_87_method_5_code 68 = .ok (.aaload, 1) := by decide +kernel
theorem d17_69 : decode prog_87_method_5_code 69 = .ok (.invokevirtual 23, 3) := by decide +kernel
theorem pd_7 : parseMethodDescriptor "(Ljava/lang/String;)I" = some ⟨[(.object "java/lang/String")], some .int⟩ := by decide +kernel
theorem d17_72 : decode prog_87_method_5_code 72 = .ok (.istore 5, 2) := by decide +kernel
theorem d17_74 : decode prog_87_method_5_code 74 = .ok (.aload_n 0, 1) := by decide +kernel
theorem d17_75 : decode prog_87_method_5_code 75 = .ok (.getfield 11, 3) := by decide +kernel
theorem d17_78 : decode prog_87_method_5_code 78 = .ok (.iload 5, 2) := by decide +kernel
theorem d17_80 : decode prog_87_method_5_code 80 = .ok (.aload_n 1, 1) := by decide +kernel
theorem d17_81 : decode prog_87_method_5_code 81 = .ok (.aload_n 3, 1) := by decide +kernel
theorem d17_82 : decode prog_87_method_5_code 82 = .ok (.iload 4, 2) := by decide +kernel
theorem d17_84 : decode prog_87_method_5_code 84 = .ok (.iaload, 1) := by decide +kernel
theorem d17_85 : decode prog_87_method_5_code 85 = .ok (.aaload, 1) := by decide +kernel
theorem d17_86 : decode prog_87_method_5_code 86 = .ok (.aastore, 1) := by decide +kernel
theorem d17_87 : decode prog_87_method_5_code 87 = .ok (.aload_n 0, 1) := by decide +kernel
theorem d17_88 : decode prog_87_method_5_code 88 = .ok (.getfield 15, 3) := by decide +kernel
theorem d17_91 : decode prog_87_method_5_code 91 = .ok (.iload 5, 2) := by decide +kernel
theorem d17_93 : decode prog_87_method_5_code 93 = .ok (.aload_n 2, 1) := by decide +kernel
theorem d17_94 : decode prog_87_method_5_code 94 = .ok (.aload_n 3, 1) := by decide +kernel
theorem d17_95 : decode prog_87_method_5_code 95 = .ok (.iload 4, 2) := by decide +kernel
theorem d17_97 : decode prog_87_method_5_code 97 = .ok (.iaload, 1) := by decide +kernel
theorem d17_98 : decode prog_87_method_5_code 98 = .ok (.laload, 1) := by decide +kernel
theorem d17_99 : decode prog_87_method_5_code 99 = .ok (.lastore, 1) := by decide +kernel
theorem d17_100 : decode prog_87_method_5_code 100 = .ok (.aload_n 0, 1) := by decide +kernel
theorem d17_101 : decode prog_87_method_5_code 101 = .ok (.getfield 19, 3) := by decide +kernel
theorem d17_104 : decode prog_87_method_5_code 104 = .ok (.iload 4, 2) := by decide +kernel
theorem d17_106 : decode prog_87_method_5_code 106 = .ok (.iload 5, 2) := by decide +kernel
theorem d17_108 : decode prog_87_method_5_code 108 = .ok (.iastore, 1) := by decide +kernel
theorem d17_109 : decode prog_87_method_5_code 109 = .ok (.iinc 4 1, 3) := by decide +kernel
theorem d17_112 : decode prog_87_method_5_code 112 = .ok (.goto (-59), 3) := by decide +kernel
theorem d17_0 : decode prog_87_method_5_code 0 = .ok (.aload_n 0, 1) := by decide +kernel
theorem d17_1 : decode prog_87_method_5_code 1 = .ok (.getfield 11, 3) := by decide +kernel
theorem d17_4 : decode prog_87_method_5_code 4 = .ok (.astore_n 1, 1) := by decide +kernel
theorem d17_5 : decode prog_87_method_5_code 5 = .ok (.aload_n 0, 1) := by decide +kernel
theorem d17_6 : decode prog_87_method_5_code 6 = .ok (.getfield 15, 3) := by decide +kernel
theorem d17_9 : decode prog_87_method_5_code 9 = .ok (.astore_n 2, 1) := by decide +kernel
theorem d17_10 : decode prog_87_method_5_code 10 = .ok (.aload_n 0, 1) := by decide +kernel
theorem d17_11 : decode prog_87_method_5_code 11 = .ok (.getfield 19, 3) := by decide +kernel
theorem d17_14 : decode prog_87_method_5_code 14 = .ok (.astore_n 3, 1) := by decide +kernel
theorem d17_15 : decode prog_87_method_5_code 15 = .ok (.aload_n 0, 1) := by decide +kernel
theorem d17_16 : decode prog_87_method_5_code 16 = .ok (.aload_n 1, 1) := by decide +kernel
theorem d17_17 : decode prog_87_method_5_code 17 = .ok (.arraylength, 1) := by decide +kernel
theorem d17_18 : decode prog_87_method_5_code 18 = .ok (.iconst 2, 1) := by decide +kernel
theorem d17_19 : decode prog_87_method_5_code 19 = .ok (.imul, 1) := by decide +kernel
theorem d17_20 : decode prog_87_method_5_code 20 = .ok (.anewarray 9, 3) := by decide +kernel
theorem d17_23 : decode prog_87_method_5_code 23 = .ok (.putfield 11, 3) := by decide +kernel
theorem d17_26 : decode prog_87_method_5_code 26 = .ok (.aload_n 0, 1) := by decide +kernel
theorem d17_27 : decode prog_87_method_5_code 27 = .ok (.aload_n 0, 1) := by decide +kernel
theorem d17_28 : decode prog_87_method_5_code 28 = .ok (.getfield 11, 3) := by decide +kernel
theorem d17_31 : decode prog_87_method_5_code 31 = .ok (.arraylength, 1) := by decide +kernel
theorem d17_32 : decode prog_87_method_5_code 32 = .ok (.newarray .long, 2) := by decide +kernel
theorem d17_34 : decode prog_87_method_5_code 34 = .ok (.putfield 15, 3) := by decide +kernel
theorem d17_37 : decode prog_87_method_5_code 37 = .ok (.aload_n 0, 1) := by decide +kernel
theorem d17_38 : decode prog_87_method_5_code 38 = .ok (.aload_n 0, 1) := by decide +kernel
theorem d17_39 : decode prog_87_method_5_code 39 = .ok (.getfield 11, 3) := by decide +kernel
theorem d17_42 : decode prog_87_method_5_code 42 = .ok (.arraylength, 1) := by decide +kernel
theorem d17_43 : decode prog_87_method_5_code 43 = .ok (.iconst 2, 1) := by decide +kernel
theorem d17_44 : decode prog_87_method_5_code 44 = .ok (.idiv, 1) := by decide +kernel
theorem d17_45 : decode prog_87_method_5_code 45 = .ok (.newarray .int, 2) := by decide +kernel
theorem d17_47 : decode prog_87_method_5_code 47 = .ok (.putfield 19, 3) := by decide +kernel
theorem d17_50 : decode prog_87_method_5_code 50 = .ok (.iconst 0, 1) := by decide +kernel
theorem d17_51 : decode prog_87_method_5_code 51 = .ok (.istore 4, 2) := by decide +kernel
theorem d15_2 : decode prog_87_method_3_code 2 = .ok (.iload_n 1, 1) := by decide +kernel
theorem d15_3 : decode prog_87_method_3_code 3 = .ok (.aload_n 0, 1) := by decide +kernel
theorem d15_4 : decode prog_87_method_3_code 4 = .ok (.getfield 27, 3) := by decide +kernel
theorem d15_7 : decode prog_87_method_3_code 7 = .ok (.if_icmp .ge 21, 3) := by decide +kernel
theorem d15_28 : decode prog_87_method_3_code 28 = .ok (.aload_n 0, 1) := by decide +kernel
theorem d15_29 : decode prog_87_method_3_code 29 = .ok (.iconst 0, 1) := by decide +kernel
theorem d15_30 : decode prog_87_method_3_code 30 = .ok (.putfield 27, 3) := by decide +kernel
theorem d15_33 : decode prog_87_method_3_code 33 = .ok (.return_, 1) := by decide +kernel
theorem d15_10 : decode prog_87_method_3_code 10 = .ok (.aload_n 0, 1) := by decide +kernel
theorem d15_11 : decode prog_87_method_3_code 11 = .ok (.getfield 11, 3) := by decide +kernel
theorem d15_14 : decode prog_87_method_3_code 14 = .ok (.aload_n 0, 1) := by decide +kernel
theorem d15_15 : decode prog_87_method_3_code 15 = .ok (.getfield 19, 3) := by decide +kernel
theorem d15_18 : decode prog_87_method_3_code 18 = .ok (.iload_n 1, 1) := by decide +kernel
theorem d15_19 : decode prog_87_method_3_code 19 = .ok (.iaload, 1) := by decide +kernel
theorem d15_20 : decode prog_87_method_3_code 20 = .ok (.aconst_null, 1) := by decide +kernel
theorem d15_21 : decode prog_87_method_3_code 21 = .ok (.aastore, 1) := by decide +kernel
theorem d15_22 : decode prog_87_method_3_code 22 = .ok (.iinc 1 1, 3) := by decide +kernel
theorem d15_25 : decode prog_87_method_3_code 25 = .ok (.goto (-23), 3) := by decide +kernel
theorem d15_0 : decode prog_87_method_3_code 0 = .ok (.iconst 0, 1) := by decide +kernel
theorem d15_1 : decode prog_87_method_3_code 1 = .ok (.istore_n 1, 1) := by decide +kernel
theorem d8_0 : decode prog_87_method_2_code 0 = .ok (.aload_n 0, 1) := by decide +kernel
theorem d8_1 : decode prog_87_method_2_code 1 = .ok (.aload_n 1, 1) := by decide +kernel
theorem d8_2 : decode prog_87_method_2_code 2 = .ok (.invokevirtual 23, 3) := by decide +kernel
theorem d8_5 : decode prog_87_method_2_code 5 = .ok (.istore_n 2, 1) := by decide +kernel
theorem d8_6 : decode prog_87_method_2_code 6 = .ok (.aload_n 0, 1) := by decide +kernel
theorem d8_7 : decode prog_87_method_2_code 7 = .ok (.getfield 11, 3) := by decide +kernel
theorem d8_10 : decode prog_87_method_2_code 10 = .ok (.iload_n 2, 1) := by decide +kernel
theorem d8_11 : decode prog_87_method_2_code 11 = .ok (.aaload, 1) := by decide +kernel
theorem d8_12 : decode prog_87_method_2_code 12 = .ok (.ifnonnull 60, 3) := by decide +kernel
theorem d8_15 : decode prog_87_method_2_code 15 = .ok (.iconst 2, 1) := by decide +kernel
theorem d8_16 : decode prog_87_method_2_code 16 = .ok (.aload_n 0, 1) := by decide +kernel
theorem d8_17 : decode prog_87_method_2_code 17 = .ok (.getfield 27, 3) := by decide +kernel
theorem d8_20 : decode prog_87_method_2_code 20 = .ok (.iconst 1, 1) := by decide +kernel
theorem d8_21 : decode prog_87_method_2_code 21 = .ok (.iadd, 1) := by decide +kernel
theorem d8_22 : decode prog_87_method_2_code 22 = .ok (.imul, 1) := by decide +kernel
theorem d8_23 : decode prog_87_method_2_code 23 = .ok (.aload_n 0, 1) := by decide +kernel
theorem d8_24 : decode prog_87_method_2_code 24 = .ok (.getfield 11, 3) := by decide +kernel
theorem d8_27 : decode prog_87_method_2_code 27 = .ok (.arraylength, 1) := by decide +kernel
theorem d8_28 : decode prog_87_method_2_code 28 = .ok (.if_icmp .le 13, 3) := by decide +kernel
theorem d8_41 : decode prog_87_method_2_code 41 = .ok (.aload_n 0, 1) := by decide +kernel
theorem d8_42 : decode prog_87_method_2_code 42 = .ok (.getfield 11, 3) := by decide +kernel
theorem d8_45 : decode prog_87_method_2_code 45 = .ok (.iload_n 2, 1) := by decide +kernel
theorem d8_46 : decode prog_87_method_2_code 46 = .ok (.aload_n 1, 1) := by decide +kernel
theorem d8_47 : decode prog_87_method_2_code 47 = .ok (.aastore, 1) := by decide +kernel
theorem d8_48 : decode prog_87_method_2_code 48 = .ok (.aload_n 0, 1) := by decide +kernel
theorem d8_49 : decode prog_87_method_2_code 49 = .ok (.getfield 15, 3) := by decide +kernel
theorem d8_52 : decode prog_87_method_2_code 52 = .ok (.iload_n 2, 1) := by decide +kernel
theorem d8_53 : decode prog_87_method_2_code 53 = .ok (.lconst 0, 1) := by decide +kernel
theorem d8_54 : decode prog_87_method_2_code 54 = .ok (.lastore, 1) := by decide +kernel
theorem d8_55 : decode prog_87_method_2_code 55 = .ok (.aload_n 0, 1) := by decide +kernel
theorem d8_56 : decode prog_87_method_2_code 56 = .ok (.getfield 19, 3) := by decide +kernel
theorem d8_59 : decode prog_87_method_2_code 59 = .ok (.aload_n 0, 1) := by decide +kernel
theorem d8_60 : decode prog_87_method_2_code 60 = .ok (.dup, 1) := by decide +kernel
theorem d8_61 : decode prog_87_method_2_code 61 = .ok (.getfield 27, 3) := by decide +kernel
theorem d8_64 : decode prog_87_method_2_code 64 = .ok (.dup_x1, 1) := by decide +kernel
theorem d8_65 : decode prog_87_method_2_code 65 = .ok (.iconst 1, 1) := by decide +kernel
theorem d8_66 : decode prog_87_method_2_code 66 = .ok (.iadd, 1) := by decide +kernel
theorem d8_67 : decode prog_87_method_2_code 67 = .ok (.putfield 27, 3) := by decide +kernel
theorem d8_70 : decode prog_87_method_2_code 70 = .ok (.iload_n 2, 1) := by decide +kernel
theorem d8_71 : decode prog_87_method_2_code 71 = .ok (.iastore, 1) := by decide +kernel
theorem d8_72 : decode prog_87_method_2_code 72 = .ok (.aload_n 0, 1) := by decide +kernel
theorem d8_73 : decode prog_87_method_2_code 73 = .ok (.getfield 15, 3) := by decide +kernel
theorem d8_76 : decode prog_87_method_2_code 76 = .ok (.iload_n 2, 1) := by decide +kernel
theorem d8_77 : decode prog_87_method_2_code 77 = .ok (.dup2, 1) := by decide +kernel
theorem d8_78 : decode prog_87_method_2_code 78 = .ok (.laload, 1) := by decide +kernel
theorem d8_79 : decode prog_87_method_2_code 79 = .ok (.lconst 1, 1) := by decide +kernel
theorem d8_80 : decode prog_87_method_2_code 80 = .ok (.ladd, 1) := by decide +kernel
theorem d8_81 : decode prog_87_method_2_code 81 = .ok (.dup2_x2, 1) := by decide +kernel
theorem d8_82 : decode prog_87_method_2_code 82 = .ok (.lastore, 1) := by decide +kernel
theorem d8_83 : decode prog_87_method_2_code 83 = .ok (.lreturn, 1) := by decide +kernel
theorem d8_31 : decode prog_87_method_2_code 31 = .ok (.aload_n 0, 1) := by decide +kernel
theorem d8_32 : decode prog_87_method_2_code 32 = .ok (.invokevirtual 31, 3) := by decide +kernel
theorem d8_35 : decode prog_87_method_2_code 35 = .ok (.aload_n 0, 1) := by decide +kernel
theorem d8_36 : decode prog_87_method_2_code 36 = .ok (.aload_n 1, 1) := by decide +kernel
theorem d8_37 : decode prog_87_method_2_code 37 = .ok (.invokevirtual 23, 3) := by decide +kernel
theorem d8_40 : decode prog_87_method_2_code 40 = .ok (.istore_n 2, 1) := by decide +kernel
def own_eqv (xs ys : List Int32) : Int32 := if xs = ys then 1 else 0
theorem own_mapint {xs ys : List Int32} (h : xs.map Value.int = ys.map Value.int) : xs = ys := by
  induction xs generalizing ys with
  | nil => cases ys with
    | nil => rfl
    | cons y ys => simp at h
  | cons x xs ih => cases ys with
    | nil => simp at h
    | cons y ys =>
      simp at h
      rw [h.1, ih (by simpa using h.2)]
theorem own_Arr.uniq {Z : State} {h : Heap} {a : Addr} {ty ty' : FieldType} {vs ws : List Value} (F : own_Arr Z h a ty vs) (G : own_Arr Z h a ty' ws) : vs = ws := by
  obtain ⟨c1, A1, r1, -⟩ := F
  obtain ⟨c2, A2, r2, -⟩ := G
  cases A1.1.symm.trans A2.1
  have q := r1.symm.trans r2
  simpa using q
theorem own_Fld_uniq {Z : State} {h : Heap} {a : Addr} {C n d : String} {v w : Value} (F : Fld Z h a C n d v) (G : Fld Z h a C n d w) : v = w :=
  Decidable.byContradiction fun q => Fld.ne F G q rfl
theorem own_At_all : ∀ (xs : List Int32) (ys : List Int32), own_At ((ys ++ xs).map Value.int) ys.length xs
  | [], ys => trivial
  | x :: xs, ys => by
    refine ⟨by simp, ?_⟩
    have q := own_At_all xs (ys ++ [x])
    simpa using q
def QLe (xs ys : List Int32) (h0 : Heap) (n0 : Nat) (v : Option Value) (h : Heap) (L : List Loc) : Prop := v = some (.int (own_eqv xs ys)) ∧ Fr n0 L ∧ h = h0
def own_Ok (c : Int32) : Prop := ¬ c < 0 ∧ ¬ (255 : Int32) < c
theorem own_mok (x : Int32) : own_Ok (x &&& 255) := by
  have e1 : (x &&& 255).toInt = x.toInt % 2 ^ 8 := Jvm.Kit.i32_mask x 255 (k := 8) (by decide) (by decide)
  have k0 : (0 : Int32).toInt = 0 := by decide
  have k1 : (255 : Int32).toInt = 255 := by decide
  constructor <;> rw [Int32.lt_iff_toInt_lt] <;> omega
/-- the byte that stands for the sign c -/
def own_by8 (c : Int32) : Int32 := nar .byte c.toInt8.toInt32
theorem own_by8k : ∀ n : Fin 256, own_by8 (Int32.ofNat n) &&& 255 = Int32.ofNat n := by decide +kernel
theorem own_nat {c : Int32} (h : own_Ok c) : ∃ n : Fin 256, c = Int32.ofNat n := by
  obtain ⟨h1, h2⟩ := h
  have k0 : (0 : Int32).toInt = 0 := by decide
  have k1 : (255 : Int32).toInt = 255 := by decide
  rw [Int32.lt_iff_toInt_lt] at h1 h2
  refine ⟨⟨c.toInt.toNat, by omega⟩, ?_⟩
  apply Int32.toInt_inj.mp
  show c.toInt = (Int32.ofNat c.toInt.toNat).toInt
  rw [Int32.toInt_ofNat_of_lt (by omega)]; omega
theorem own_by8m {c : Int32} (h : own_Ok c) : own_by8 c &&& 255 = c := by obtain ⟨n, rfl⟩ := own_nat h; exact own_by8k n
theorem own_by8i {c d : Int32} (h : own_Ok c) (h' : own_Ok d) (e : own_by8 c = own_by8 d) : c = d := by rw [← own_by8m h, e, own_by8m h']
/-- r is a String of the one sign c -/
def own_Nm (Z : State) (h : Heap) (r : Addr) (c : Int32) : Prop := ∃ (t : Addr) (hs hz : Int32), Exa Z h r "java/lang/String" ∧ Fld Z h r "java/lang/String" "coder" "B" (.int 0) ∧ Fld Z h r "java/lang/String" "value" "[B" (.ref t) ∧ Fld Z h r "java/lang/String" "hash" "I" (.int hs) ∧ Fld Z h r "java/lang/String" "hashIsZero" "Z" (.int hz) ∧ own_Arr Z h t .byte ([own_by8 c].map Value.int) ∧ (hs = 0 ∨ hs = c) ∧ (hz = 0 ∨ c = 0) ∧ (hz = 0 ∨ hz = 1)
theorem own_Nm.lt {Z : State} {h : Heap} {r : Addr} {c : Int32} (F : own_Nm Z h r c) : r < h.size := by obtain ⟨t, hs, hz, E, -⟩ := F; exact E.lt
def QI (z : Int32) (h0 : Heap) (n0 : Nat) (v : Option Value) (h : Heap) (L : List Loc) : Prop := v = some (.int z) ∧ Fr n0 L ∧ h = h0
def QA (Z : State) (vs : List Value) (h0 : Heap) (n0 : Nat) (v : Option Value) (h : Heap) (L : List Loc) : Prop := ∃ r : Addr, v = some (.ref r) ∧ Fr n0 L ∧ Keep h0 h [] ∧ h0.size ≤ r ∧ own_Arr Z h r .byte vs
def QF (Z : State) (a t : Addr) (h0 : Heap) (n0 : Nat) (v : Option Value) (h : Heap) (L : List Loc) : Prop := v = none ∧ Fr n0 L ∧ Keep h0 h [a] ∧ Exa Z h a "java/lang/String" ∧ Fld Z h a "java/lang/String" "coder" "B" (.int 0) ∧ Fld Z h a "java/lang/String" "value" "[B" (.ref t) ∧ Fld Z h a "java/lang/String" "hash" "I" (.int 0) ∧ Fld Z h a "java/lang/String" "hashIsZero" "Z" (.int 0)
def QR (Z : State) (c : Int32) (h0 : Heap) (n0 : Nat) (v : Option Value) (h : Heap) (L : List Loc) : Prop := ∃ r : Addr, v = some (.ref r) ∧ Fr n0 L ∧ Keep h0 h [] ∧ h0.size ≤ r ∧ n0 ≤ r ∧ own_Nm Z h r c
def QH (Z : State) (a : Addr) (c : Int32) (h0 : Heap) (n0 : Nat) (v : Option Value) (h : Heap) (L : List Loc) : Prop := v = some (.int c) ∧ Fr n0 L ∧ Keep h0 h [a] ∧ own_Nm Z h a c
/-- where the probing from j on ends -/
def own_find : Nat → List (Option Int32) → Nat → Int32 → Nat
  | 0, _, j, _ => j
  | f + 1, ks, j, c => match ks.getD j none with
    | none => j
    | some k => if k = c then j else own_find f ks ((j + 1) % ks.length) c
def own_slot (ks : List (Option Int32)) (c : Int32) : Nat := own_find ks.length ks (c.toInt.toNat % ks.length) c
theorem own_find_n {f j : Nat} {ks : List (Option Int32)} {c : Int32} (h : ks.getD j none = none) : own_find (f + 1) ks j c = j := by
  rw [own_find, h]
theorem own_find_y {f j : Nat} {ks : List (Option Int32)} {c : Int32} (h : ks.getD j none = some c) : own_find (f + 1) ks j c = j := by
  rw [own_find, h]; simp
theorem own_find_s {f j : Nat} {ks : List (Option Int32)} {c k : Int32} (h : ks.getD j none = some k) (q : ¬ k = c) : own_find (f + 1) ks j c = own_find f ks ((j + 1) % ks.length) c := by
  rw [own_find, h]; simp [q]
theorem own_gd {ks : List (Option Int32)} {j : Nat} {o : Option Int32} (h : ks[j]? = some o) : ks.getD j none = o := by rw [List.getD_eq_getElem?_getD, h]; rfl
theorem own_gl {ks : List (Option Int32)} {j : Nat} {d : Int32} (h : ks.getD j none = some d) : ks[j]? = some (some d) := by
  rw [List.getD_eq_getElem?_getD] at h
  cases q : ks[j]? with
  | none => rw [q] at h; cases h
  | some o => rw [q] at h; exact congrArg some h
theorem own_gn {ks : List (Option Int32)} {j : Nat} (hj : j < ks.length) (h : ks.getD j none = none) : ks[j]? = some none := by
  rw [List.getD_eq_getElem?_getD, List.getElem?_eq_getElem hj] at h
  rw [List.getElem?_eq_getElem hj]; exact congrArg some h
/-- one step further, the free place is one nearer -/
theorem own_near {N J d : Nat} (hJ : J < N) (hd : ¬ d = 0) : ((J + 1) % N + (d - 1)) % N = (J + d) % N := by
  rw [Nat.mod_add_mod]; congr 1; omega
theorem own_find_spec (ks : List (Option Int32)) (c : Int32) : ∀ (f J : Nat), J < ks.length → (∃ d, d < f ∧ ks.getD ((J + d) % ks.length) none = none) → own_find f ks J c < ks.length ∧ (ks[own_find f ks J c]? = some none ∨ ks[own_find f ks J c]? = some (some c))
  | 0, J, hJ, ⟨d, hd, _⟩ => absurd hd (Nat.not_lt_zero _)
  | f + 1, J, hJ, ⟨d, hd, hn⟩ => by
    cases q : ks.getD J none with
    | none => rw [own_find_n q]; exact ⟨hJ, Or.inl (own_gn hJ q)⟩
    | some k =>
      by_cases hk : k = c
      · subst hk; rw [own_find_y q]; exact ⟨hJ, Or.inr (own_gl q)⟩
      · rw [own_find_s q hk]
        have d0 : ¬ d = 0 := by
          intro z; subst z
          rw [Nat.add_zero, Nat.mod_eq_of_lt hJ, q] at hn; cases hn
        exact own_find_spec ks c f _ (Nat.mod_lt _ (by omega)) ⟨d - 1, by omega, by rw [own_near hJ d0]; exact hn⟩
theorem own_far {N J i : Nat} (hJ : J < N) (hi : i < N) : ∃ d, d < N ∧ (J + d) % N = i := by
  by_cases q : J ≤ i
  · exact ⟨i - J, by omega, by rw [show J + (i - J) = i by omega]; exact Nat.mod_eq_of_lt hi⟩
  · refine ⟨N + i - J, by omega, ?_⟩
    rw [show J + (N + i - J) = i + N by omega, Nat.add_mod_right]; exact Nat.mod_eq_of_lt hi
theorem own_free {ks : List (Option Int32)} (h : ∃ i : Nat, ks[i]? = some none) {J : Nat} (hJ : J < ks.length) : ∃ d, d < ks.length ∧ ks.getD ((J + d) % ks.length) none = none := by
  obtain ⟨i, hi⟩ := h
  have il : i < ks.length := (List.getElem?_eq_some_iff.mp hi).1
  obtain ⟨d, hd, e⟩ := own_far hJ il
  exact ⟨d, hd, by rw [e]; exact own_gd hi⟩
theorem own_slot_spec {ks : List (Option Int32)} (h : ∃ i : Nat, ks[i]? = some none) (c : Int32) : own_slot ks c < ks.length ∧ (ks[own_slot ks c]? = some none ∨ ks[own_slot ks c]? = some (some c)) := by
  have hp : 0 < ks.length := by obtain ⟨i, hi⟩ := h; have := (List.getElem?_eq_some_iff.mp hi).1; omega
  exact own_find_spec ks c _ _ (Nat.mod_lt _ hp) (own_free h (Nat.mod_lt _ hp))
theorem own_gs {ks : List (Option Int32)} {i j : Nat} {o : Option Int32} (q : ¬ j = i) : (ks.set i o).getD j none = ks.getD j none := by
  rw [List.getD_eq_getElem?_getD, List.getD_eq_getElem?_getD, List.getElem?_set_ne (fun z => q z.symm)]
theorem own_gself {ks : List (Option Int32)} {i : Nat} {o : Option Int32} (h : i < ks.length) : (ks.set i o).getD i none = o := by
  rw [List.getD_eq_getElem?_getD, List.getElem?_set_self h]; rfl
theorem own_set_hit {ks : List (Option Int32)} {c : Int32} {j : Nat} (hj : j < ks.length) : ∀ (f J : Nat), own_find f ks J c = j → own_find f (ks.set j (some c)) J c = j
  | 0, J, h => h
  | f + 1, J, h => by
    by_cases q : J = j
    · subst q; exact own_find_y (own_gself hj)
    · cases e : ks.getD J none with
      | none => rw [own_find_n e] at h; exact absurd h q
      | some k =>
        by_cases hk : k = c
        · subst hk; rw [own_find_y e] at h; exact absurd h q
        · rw [own_find_s e hk] at h
          rw [own_find_s (by rw [own_gs q]; exact e) hk, List.length_set]
          exact own_set_hit hj f _ h
theorem own_set_oth {ks : List (Option Int32)} {c d : Int32} {i j : Nat} (hi : ks.getD i none = some d) (hj : ks.getD j none = none) : ∀ (f J : Nat), own_find f ks J d = i → own_find f (ks.set j (some c)) J d = i
  | 0, J, h => h
  | f + 1, J, h => by
    cases e : ks.getD J none with
    | none => rw [own_find_n e] at h; subst h; rw [e] at hi; cases hi
    | some k =>
      have q : ¬ J = j := by intro z; subst z; rw [e] at hj; cases hj
      by_cases hk : k = d
      · subst hk; rw [own_find_y e] at h
        rw [own_find_y (by rw [own_gs q]; exact e)]; exact h
      · rw [own_find_s e hk] at h
        rw [own_find_s (by rw [own_gs q]; exact e) hk, List.length_set]
        exact own_set_oth hi hj f _ h
/-- one increment of the sign c -/
def own_St (ks : List (Option Int32)) (ct : List Int64) (c : Int32) (ks' : List (Option Int32)) (ct' : List Int64) (z : Int64) : Prop :=
  (ks[own_slot ks c]? = some (some c) ∧ ks' = ks ∧ ct' = ct.set (own_slot ks c) (ct.getD (own_slot ks c) 0 + 1) ∧ z = ct.getD (own_slot ks c) 0 + 1) ∨
  (ks[own_slot ks c]? = some none ∧ ks' = ks.set (own_slot ks c) (some c) ∧ ct' = ct.set (own_slot ks c) 1 ∧ z = 1)
/-- the table tells the counts F -/
def own_Good (ks : List (Option Int32)) (ct : List Int64) (F : Int32 → Int64) : Prop :=
  ∀ d : Int32, (∃ i : Nat, ks[i]? = some (some d) ∧ own_slot ks d = i ∧ ct.getD i 0 = F d ∧ ∀ j : Nat, ks[j]? = some (some d) → j = i) ∨ ((∀ i : Nat, ¬ ks[i]? = some (some d)) ∧ F d = 0)
theorem own_cg {ct : List Int64} {i j : Nat} {z : Int64} (q : ¬ j = i) : (ct.set i z).getD j 0 = ct.getD j 0 := by
  rw [List.getD_eq_getElem?_getD, List.getD_eq_getElem?_getD, List.getElem?_set_ne (fun z => q z.symm)]
theorem own_cs {ct : List Int64} {i : Nat} {z : Int64} (h : i < ct.length) : (ct.set i z).getD i 0 = z := by
  rw [List.getD_eq_getElem?_getD, List.getElem?_set_self h]; rfl
theorem own_Good.step {ks ks' : List (Option Int32)} {ct ct' : List Int64} {F : Int32 → Int64} {c : Int32} {z : Int64} (G : own_Good ks ct F) (hl : ct.length = ks.length) (s : own_St ks ct c ks' ct' z) : z = F c + 1 ∧ own_Good ks' ct' (fun d => if d = c then F d + 1 else F d) := by
  rcases s with ⟨h1, rfl, rfl, rfl⟩ | ⟨h1, rfl, rfl, rfl⟩
  · have jl := (List.getElem?_eq_some_iff.mp h1).1
    rcases G c with ⟨i, g1, g2, g3, g4⟩ | ⟨g1, -⟩
    · have ei := g4 _ h1
      subst g2
      refine ⟨by rw [g3], fun d => ?_⟩
      by_cases hd : d = c
      · subst hd
        exact Or.inl ⟨_, g1, rfl, by simp only [if_pos]; rw [own_cs (by omega), g3], g4⟩
      · simp only [if_neg hd]
        rcases G d with ⟨i, k1, k2, k3, k4⟩ | q
        · refine Or.inl ⟨i, k1, k2, ?_, k4⟩
          rw [own_cg, k3]
          intro z; subst z; rw [k1] at h1; exact hd (Option.some.inj (Option.some.inj h1))
        · exact Or.inr q
    · exact absurd h1 (g1 _)
  · have jl := (List.getElem?_eq_some_iff.mp h1).1
    rcases G c with ⟨i, g1, g2, g3, g4⟩ | ⟨g1, g2⟩
    · subst g2; rw [g1] at h1; cases h1
    · refine ⟨by rw [g2]; rfl, fun d => ?_⟩
      by_cases hd : d = c
      · subst hd
        refine Or.inl ⟨own_slot ks d, List.getElem?_set_self jl, ?_, ?_, fun j hj => ?_⟩
        · have q := own_set_hit (c := d) jl ks.length _ rfl
          unfold own_slot at q ⊢
          rw [List.length_set]; exact q
        · simp only [if_pos]; rw [own_cs (by omega), g2]; rfl
        · by_cases e : j = own_slot ks d
          · exact e
          · rw [List.getElem?_set_ne (fun z => e z.symm)] at hj; exact absurd hj (g1 j)
      · simp only [if_neg hd]
        rcases G d with ⟨i, k1, k2, k3, k4⟩ | ⟨k1, k2⟩
        · have ne : ¬ i = own_slot ks c := by intro z; rw [← z, k1] at h1; cases h1
          refine Or.inl ⟨i, by rw [List.getElem?_set_ne (fun z => ne z.symm)]; exact k1, ?_, by rw [own_cg ne, k3], fun j hj => ?_⟩
          · have q := own_set_oth (c := c) (own_gd k1) (own_gd h1) ks.length _ k2
            unfold own_slot at q ⊢
            rw [List.length_set]; exact q
          · by_cases e : j = own_slot ks c
            · rw [e, List.getElem?_set_self jl] at hj; exact absurd (Option.some.inj (Option.some.inj hj)).symm hd
            · rw [List.getElem?_set_ne (fun z => e z.symm)] at hj; exact k4 j hj
        · refine Or.inr ⟨fun j hj => ?_, k2⟩
          by_cases e : j = own_slot ks c
          · rw [e, List.getElem?_set_self jl] at hj; exact absurd (Option.some.inj (Option.some.inj hj)).symm hd
          · rw [List.getElem?_set_ne (fun z => e z.symm)] at hj; exact k1 j hj
theorem own_Good.nil (N : Nat) (ct : List Int64) : own_Good (List.replicate N none) ct (fun _ => 0) := by
  intro d
  refine Or.inr ⟨fun i q => ?_, rfl⟩
  rw [List.getElem?_replicate] at q
  split at q <;> cases q
/-- the law, in plain words -/
theorem own_law {N : Nat} {ct0 ct1 ct2 ct3 : List Int64} {ks1 ks2 ks3 : List (Option Int32)} {x u y : Int32} {z1 z2 z3 : Int64} (l0 : ct0.length = N) (l1 : ct1.length = ks1.length) (l2 : ct2.length = ks2.length)
    (s1 : own_St (List.replicate N none) ct0 x ks1 ct1 z1) (s2 : own_St ks1 ct1 u ks2 ct2 z2) (s3 : own_St ks2 ct2 y ks3 ct3 z3) : z1 = 1 ∧ z2 = 1 + (if u = x then 1 else 0) ∧ z3 = 1 + (if y = x then 1 else 0) + (if y = u then 1 else 0) := by
  obtain ⟨e1, g1⟩ := (own_Good.nil N ct0).step (by simpa using l0) s1
  obtain ⟨e2, g2⟩ := g1.step l1 s2
  obtain ⟨e3, g3⟩ := g2.step l2 s3
  refine ⟨e1, ?_, ?_⟩
  · rw [e2]; by_cases q : u = x <;> simp [q]
  · rw [e3]
    by_cases q : y = x
    · subst q
      by_cases q' : y = u
      · subst q'; simp
      · simp [q']
    · by_cases q' : y = u
      · subst q'; simp [q]
      · simp [q, q']
/-- what holds of the table at every call: k names are in use -/
def own_Inv (ks : List (Option Int32)) (un : List Int32) (k : Nat) : Prop := (ks.length = 8 ∨ ks.length = 16) ∧ 2 * un.length = ks.length ∧ k ≤ un.length ∧ ks.countP Option.isSome ≤ k ∧ (∀ (j : Nat) (d : Int32), ks[j]? = some (some d) → ∃ i : Nat, i < k ∧ un[i]? = some (Int32.ofNat j)) ∧ (∀ i : Nat, i < k → ∃ (j : Nat) (d : Int32), un[i]? = some (Int32.ofNat j) ∧ ks[j]? = some (some d))
theorem own_cnt {ks : List (Option Int32)} {k : Nat} (h : ks.countP Option.isSome ≤ k) (hk : k < ks.length) : ∃ i : Nat, ks[i]? = some none := by
  refine Classical.byContradiction fun q => ?_
  have e : ks.countP Option.isSome = ks.length := List.countP_eq_length.mpr fun o ho => by
    obtain ⟨i, hi, rfl⟩ := List.getElem_of_mem ho
    cases z : ks[i] with
    | some d => rfl
    | none => exact absurd ⟨i, by rw [List.getElem?_eq_getElem hi, z]⟩ q
  omega
theorem own_Inv.free {ks : List (Option Int32)} {un : List Int32} {k : Nat} (I : own_Inv ks un k) : ∃ i : Nat, ks[i]? = some none :=
  own_cnt I.2.2.2.1 (by have := I.1; have := I.2.1; have := I.2.2.1; omega)
theorem own_cset : ∀ (ks : List (Option Int32)) (j : Nat) (o : Option Int32), (ks.set j o).countP Option.isSome ≤ ks.countP Option.isSome + 1
  | [], j, o => by simp
  | a :: ks, 0, o => by
    simp only [List.set_cons_zero, List.countP_cons]
    split <;> split <;> omega
  | a :: ks, j + 1, o => by
    have := own_cset ks j o
    simp only [List.set_cons_succ, List.countP_cons]
    omega
theorem own_Inv.put {ks : List (Option Int32)} {un : List Int32} {k j : Nat} {c : Int32} (I : own_Inv ks un k) (hj : j < ks.length) (hk : k < un.length) : own_Inv (ks.set j (some c)) (un.set k (Int32.ofNat j)) (k + 1) := by
  obtain ⟨h1, h2, h3, h4, h5, h6⟩ := I
  refine ⟨by simpa using h1, by simpa using h2, by rw [List.length_set]; omega, ?_, fun i d hi => ?_, fun i hi => ?_⟩
  · have := own_cset ks j (some c); omega
  · by_cases e : i = j
    · subst e; exact ⟨k, by omega, List.getElem?_set_self hk⟩
    · rw [List.getElem?_set_ne (fun z => e z.symm)] at hi
      obtain ⟨n, q1, q2⟩ := h5 i d hi
      exact ⟨n, by omega, by rw [List.getElem?_set_ne (by omega)]; exact q2⟩
  · by_cases e : i = k
    · subst e; exact ⟨j, c, List.getElem?_set_self hk, List.getElem?_set_self hj⟩
    · obtain ⟨n, d, q1, q2⟩ := h6 i (by omega)
      by_cases e' : n = j
      · subst e'; exact ⟨n, c, by rw [List.getElem?_set_ne (by omega)]; exact q1, List.getElem?_set_self hj⟩
      · exact ⟨n, d, by rw [List.getElem?_set_ne (by omega)]; exact q1, by rw [List.getElem?_set_ne (fun z => e' z.symm)]; exact q2⟩
theorem own_Inv.nil {N : Nat} {un : List Int32} (h1 : N = 8 ∨ N = 16) (h2 : 2 * un.length = N) : own_Inv (List.replicate N none) un 0 := by
  refine ⟨by simpa using h1, by simpa using h2, Nat.zero_le _, ?_, fun j d h => ?_, fun i hi => absurd hi (Nat.not_lt_zero _)⟩
  · rw [List.countP_replicate]; simp
  · rw [List.getElem?_replicate] at h
    split at h
    · cases h
    · cases h
theorem own_none {kw : List (Option Int32)} (h : ∀ (j : Nat) (d : Int32), ¬ kw[j]? = some (some d)) : kw = List.replicate kw.length none := by
  apply List.ext_getElem?
  intro i
  rw [List.getElem?_replicate]
  split
  · rename_i hi
    cases q : kw[i]'hi with
    | none => rw [List.getElem?_eq_getElem hi, q]
    | some d => exact absurd (by rw [List.getElem?_eq_getElem hi, q]) (h i d)
  · rename_i hi; exact List.getElem?_eq_none (by omega)
theorem own_2k : ∀ k : Fin 9, ((2 : Int32) * (Int32.ofNat k + 1)).toInt = 2 * ((k : Nat) + 1 : Int) := by decide +kernel
theorem own_ofs (k : Nat) : Int32.ofNat k + 1 = Int32.ofNat (k + 1) := by rw [Int32.ofNat_add]; rfl
theorem own_ofi {j : Nat} (h : j < 32) : (Int32.ofNat j).toInt = (j : Int) := Int32.toInt_ofNat_of_lt (by omega)
theorem own_ofe {j : Int32} {J : Nat} (h : j.toInt = (J : Int)) : j = Int32.ofNat J := by
  apply Int32.toInt_inj.mp
  have := j.toInt_lt
  rw [Int32.toInt_ofNat_of_lt (by omega)]; exact h
theorem own_mk {n N : Nat} {mk : Int32} (h : n = N) (hN : N = 8 ∨ N = 16) (q : n.toInt32 - 1 = mk) : (N = 8 ∧ mk = 7) ∨ (N = 16 ∧ mk = 15) := by
  subst h; subst q
  rcases hN with rfl | rfl
  · exact Or.inl ⟨rfl, by decide⟩
  · exact Or.inr ⟨rfl, by decide⟩

def own_T (Z : State) (h : Heap) (n0 : Nat) (a bn bc bu : Addr) (vs : List Value) (ct : List Int64) (un : List Int32) (sz : Int32) : Prop := Exa Z h a "com/example/hedgewalk/hedgewalk/input/ChildCounts" ∧ Fld Z h a "com/example/hedgewalk/hedgewalk/input/ChildCounts" "names" "[Ljava/lang/String;" (.ref bn) ∧ Fld Z h a "com/example/hedgewalk/hedgewalk/input/ChildCounts" "counts" "[J" (.ref bc) ∧ Fld Z h a "com/example/hedgewalk/hedgewalk/input/ChildCounts" "used" "[I" (.ref bu) ∧ Fld Z h a "com/example/hedgewalk/hedgewalk/input/ChildCounts" "size" "I" (.int sz) ∧ own_Arr Z h bn (.object "java/lang/String") vs ∧ own_Ovr Z h bn "java/lang/String" ∧ own_Arr Z h bc .long (ct.map Value.long) ∧ own_Arr Z h bu .int (un.map Value.int) ∧ n0 ≤ a ∧ n0 ≤ bn ∧ n0 ≤ bc ∧ n0 ≤ bu
def Q7 (Z : State) (a : Addr) (h0 : Heap) (n0 : Nat) (v : Option Value) (h : Heap) (L : List Loc) : Prop := ∃ bn bc bu : Addr, v = none ∧ Fr n0 L ∧ Keep h0 h [a] ∧ own_T Z h n0 a bn bc bu (List.replicate 8 .null) (List.replicate 8 0) (List.replicate 4 0) 0
def own_Strs (Z : State) (h : Heap) (n0 : Nat) (S : List (Addr × Int32)) : Prop := ∀ p ∈ S, own_Nm Z h p.1 p.2 ∧ own_Ok p.2 ∧ n0 ≤ p.1
/-- the names vs spell ks, by the Strings S -/
def own_Rel (vs : List Value) (ks : List (Option Int32)) (S : List (Addr × Int32)) : Prop := vs.length = ks.length ∧ ∀ j, j < ks.length → (vs[j]? = some .null ∧ ks[j]? = some none) ∨ ∃ (r : Addr) (c : Int32), vs[j]? = some (.ref r) ∧ ks[j]? = some (some c) ∧ (r, c) ∈ S
section OwnTable
variable {Z : State} {a0 : Array Value} {h h' : Heap} {n0 : Nat} {r b : Addr} {c d : Int32} {S : List (Addr × Int32)} {vs : List Value} {ks : List (Option Int32)} {j sl : Nat} {v : Value} {ws : List Addr}
theorem own_Rel.nil (N : Nat) : own_Rel (List.replicate N .null) (List.replicate N none) S := by
  refine ⟨by simp, fun j hj => Or.inl ?_⟩
  rw [List.length_replicate] at hj
  rw [List.getElem?_replicate, List.getElem?_replicate, if_pos hj, if_pos hj]; exact ⟨rfl, rfl⟩
theorem own_Rel.put (R : own_Rel vs ks S) (hj : j < ks.length) (hm : (r, c) ∈ S) : own_Rel (vs.set j (.ref r)) (ks.set j (some c)) S := by
  refine ⟨by simpa using R.1, fun i hi => ?_⟩
  rw [List.length_set] at hi
  by_cases e : i = j
  · subst e; exact Or.inr ⟨r, c, List.getElem?_set_self (by rw [R.1]; exact hj), List.getElem?_set_self hj, hm⟩
  · rw [List.getElem?_set_ne (fun z => e z.symm), List.getElem?_set_ne (fun z => e z.symm)]; exact R.2 i hi
theorem own_Rel.clr (R : own_Rel vs ks S) (hj : j < ks.length) : own_Rel (vs.set j .null) (ks.set j none) S := by
  refine ⟨by simpa using R.1, fun i hi => ?_⟩
  rw [List.length_set] at hi
  by_cases e : i = j
  · subst e; exact Or.inl ⟨List.getElem?_set_self (by rw [R.1]; exact hj), List.getElem?_set_self hj⟩
  · rw [List.getElem?_set_ne (fun z => e z.symm), List.getElem?_set_ne (fun z => e z.symm)]; exact R.2 i hi
theorem own_Rel.atN (R : own_Rel vs ks S) (h : ks[j]? = some none) : vs[j]? = some .null := by
  rcases R.2 j (List.getElem?_eq_some_iff.mp h).1 with q | ⟨r, c, q1, q2, q3⟩
  · exact q.1
  · rw [h] at q2; cases q2
theorem own_Rel.atS (R : own_Rel vs ks S) (h : ks[j]? = some (some c)) : ∃ r, vs[j]? = some (.ref r) ∧ (r, c) ∈ S := by
  rcases R.2 j (List.getElem?_eq_some_iff.mp h).1 with q | ⟨r, d, q1, q2, q3⟩
  · rw [h] at q; cases q.2
  · rw [h] at q2; cases q2; exact ⟨r, q1, q3⟩
theorem own_Nm.uniq (F : own_Nm Z h r c) (G : own_Nm Z h r d) (h1 : own_Ok c) (h2 : own_Ok d) : c = d := by
  obtain ⟨t, hs, hz, E, C, V, H, HZ, A, -⟩ := F
  obtain ⟨t', hs', hz', E', C', V', H', HZ', A', -⟩ := G
  cases own_Fld_uniq V V'
  have q := own_mapint (own_Arr.uniq A A')
  exact own_by8i h1 h2 (List.cons.inj q).1
theorem own_Nm.exa (F : own_Nm Z h r c) : Exa Z h r "java/lang/String" := by obtain ⟨t, hs, hz, E, -⟩ := F; exact E
theorem own_Nm.ext (F : own_Nm Z h r c) (E : Ext h h') : own_Nm Z h' r c := by
  obtain ⟨t, hs, hz, a1, a2, a3, a4, a5, a6, g⟩ := F
  exact ⟨t, hs, hz, Exa.ext E a1, Fld.ext E a2, Fld.ext E a3, Fld.ext E a4, Fld.ext E a5, a6.ext E, g⟩
theorem own_Nm.keep (F : own_Nm Z h r c) (K : Keep h h' ws) (q1 : r ∉ ws) (q2 : ∀ t vs, own_Arr Z h t .byte vs → t ∉ ws) : own_Nm Z h' r c := by
  obtain ⟨t, hs, hz, a1, a2, a3, a4, a5, a6, g⟩ := F
  exact ⟨t, hs, hz, Exa.keep a1 K, Fld.keep a2 K q1, Fld.keep a3 K q1, Fld.keep a4 K q1, Fld.keep a5 K q1, a6.keep K (q2 _ _ a6), g⟩
theorem own_Nm.keep0 (F : own_Nm Z h r c) (K : Keep h h' []) : own_Nm Z h' r c := F.keep K nin0 fun _ _ _ => nin0
theorem own_Nm.keepE (F : own_Nm Z h r c) (K : Keep h h' [b]) (G : Exa Z h b "com/example/hedgewalk/hedgewalk/input/ChildCounts") (wi : (Cond.instantiable "com/example/hedgewalk/hedgewalk/input/ChildCounts" 4).before a0 Z = true) : own_Nm Z h' r c :=
  F.keep K (ninS (Ne.symm (ne_exa G F.exa (by decide))) nin0) fun _ _ A => ninS (Ne.symm (own_exa_arr G wi A)) nin0
theorem own_Strs.ext (F : own_Strs Z h n0 S) (E : Ext h h') : own_Strs Z h' n0 S := fun p hp => ⟨(F p hp).1.ext E, (F p hp).2⟩
theorem own_Strs.wrE (F : own_Strs Z h n0 S) (W : Wr h h' b sl v) (G : Exa Z h b "com/example/hedgewalk/hedgewalk/input/ChildCounts") (wi : (Cond.instantiable "com/example/hedgewalk/hedgewalk/input/ChildCounts" 4).before a0 Z = true) : own_Strs Z h' n0 S :=
  fun p hp => ⟨(F p hp).1.keepE (Keep.of_wr W) G wi, (F p hp).2⟩
theorem own_Strs.wrA {ty : FieldType} (F : own_Strs Z h n0 S) (W : Wr h h' b sl v) (G : own_Arr Z h b ty vs) (q : ty ≠ .byte) (wi : (Cond.instantiable "java/lang/String" 4).before a0 Z = true) : own_Strs Z h' n0 S :=
  fun p hp => ⟨(F p hp).1.keep (Keep.of_wr W) (ninS (own_exa_arr (F p hp).1.exa wi G) nin0) fun _ _ A => ninS (own_Arr.ne A G (Ne.symm q)) nin0, (F p hp).2⟩
theorem own_Strs.keepS (F : own_Strs Z h n0 S) (hm : (r, c) ∈ S) (K : Keep h h' [r]) (G : own_Nm Z h' r c) (wi : (Cond.instantiable "java/lang/String" 4).before a0 Z = true) : own_Strs Z h' n0 S := by
  intro p hp
  obtain ⟨n1, o1, g1⟩ := F p hp
  obtain ⟨n2, o2, g2⟩ : own_Nm Z h r c ∧ own_Ok c ∧ n0 ≤ r := F _ hm
  refine ⟨?_, o1, g1⟩
  obtain ⟨x, y⟩ := p
  dsimp only at n1 o1 g1 ⊢
  by_cases e : x = r
  · subst e
    cases own_Nm.uniq n1 n2 o1 o2
    exact G
  · exact n1.keep K (ninS e nin0) fun _ _ A => ninS (Ne.symm (own_exa_arr n2.exa wi A)) nin0
end OwnTable
theorem own_Arr.cast {Z : State} {h : Heap} {a : Addr} {ty : FieldType} {vs ws : List Value} (F : own_Arr Z h a ty vs) (e : vs = ws) : own_Arr Z h a ty ws := e ▸ F
theorem own_ct1 {ct : List Int64} {j : Nat} {z : Int64} : (ct.map Value.long).set j (.long z) = (ct.set j z).map Value.long := by rw [List.map_set]
theorem own_ct2 {ct : List Int64} {j : Nat} {y z : Int64} : ((ct.map Value.long).set j (.long y)).set j (.long z) = (ct.set j z).map Value.long := by rw [List.map_set, List.set_set]
theorem own_un1 {un : List Int32} {j : Nat} {z : Int32} : (un.map Value.int).set j (.int z) = (un.set j z).map Value.int := by rw [List.map_set]
theorem own_ctv {ct : List Int64} {j : Nat} (h : j < ct.length) : (ct.map Value.long)[j]? = some (.long (ct.getD j 0)) := by
  rw [List.getElem?_map, List.getD_eq_getElem?_getD, List.getElem?_eq_getElem h]; rfl
theorem own_ctw {ct : List Int64} {j : Nat} {y : Int64} (h : j < ct.length) : ((ct.map Value.long).set j (.long y))[j]? = some (.long y) := List.getElem?_set_self (by simpa using h)
theorem own_unv {un : List Int32} {j : Nat} {z : Int32} (h : un[j]? = some z) : (un.map Value.int)[j]? = some (.int z) := by rw [List.getElem?_map, h]; rfl
theorem own_hx16 : ∀ n : Fin 256, (Int32.ofNat n ^^^ XT.ushr (Int32.ofNat n) 16) = Int32.ofNat n := by decide +kernel
theorem own_hx {c : Int32} (h : own_Ok c) : (c ^^^ XT.ushr c 16) = c := by obtain ⟨n, rfl⟩ := own_nat h; exact own_hx16 n
theorem own_msk {x mk : Int32} {N : Nat} (h : (N = 8 ∧ mk = 7) ∨ (N = 16 ∧ mk = 15)) : (x &&& mk).toInt = x.toInt % (N : Int) := by
  rcases h with ⟨rfl, rfl⟩ | ⟨rfl, rfl⟩
  · exact Jvm.Kit.i32_mask x 7 (k := 3) (by decide) (by decide)
  · exact Jvm.Kit.i32_mask x 15 (k := 4) (by decide) (by decide)
theorem own_home {x mk : Int32} {N : Nat} (h : (N = 8 ∧ mk = 7) ∨ (N = 16 ∧ mk = 15)) (ok : own_Ok x) : ((x ^^^ XT.ushr x 16) &&& mk).toInt = ((x.toInt.toNat % N : Nat) : Int) := by
  rw [own_hx ok, own_msk h, Int.natCast_emod]
  obtain ⟨h1, -⟩ := ok
  have k0 : (0 : Int32).toInt = 0 := by decide
  rw [Int32.lt_iff_toInt_lt] at h1
  rw [Int.toNat_of_nonneg (by omega)]
theorem own_next {x mk : Int32} {N J : Nat} (h : (N = 8 ∧ mk = 7) ∨ (N = 16 ∧ mk = 15)) (hj : x.toInt = (J : Int)) (hJ : J < 32) : ((x + 1) &&& mk).toInt = (((J + 1) % N : Nat) : Int) := by
  rw [own_msk h, own_inc hj (by omega), Int.natCast_emod]
theorem own_eq1 {x y : Int32} (h1 : own_Ok x) (h2 : own_Ok y) : own_eqv [own_by8 x] [own_by8 y] = if x = y then 1 else 0 := by
  unfold own_eqv
  by_cases q : x = y
  · subst q; simp
  · rw [if_neg q, if_neg]
    intro z
    exact q (own_by8i h1 h2 (List.cons.inj z).1)
theorem own_fit {k : Nat} {vs : List Value} (hk : k ≤ 8) (hl : vs.length < 2 ^ 31) : vs.length.toInt32 < (2 : Int32) * (Int32.ofNat k + 1) ↔ vs.length < 2 * (k + 1) := by
  have e := own_2k ⟨k, by omega⟩
  dsimp only at e
  rw [Int32.lt_iff_toInt_lt, e, len_toInt hl]; omega
def own_CS (Z : State) (h : Heap) (cs : Int32) : Prop := Sta Z h "java/lang/String" "COMPACT_STRINGS" "Z" (.int cs)
/-- the table, k names in use -/
def own_Tab (Z : State) (h : Heap) (n0 : Nat) (a bn bc bu : Addr) (vs : List Value) (ks : List (Option Int32)) (ct : List Int64) (un : List Int32) (k : Nat) (S : List (Addr × Int32)) : Prop := own_T Z h n0 a bn bc bu vs ct un (Int32.ofNat k) ∧ own_Rel vs ks S ∧ own_Inv ks un k ∧ ct.length = ks.length
def Q9 (Z : State) (a : Addr) (cc : Int32) (ks : List (Option Int32)) (S : List (Addr × Int32)) (h0 : Heap) (n0 : Nat) (v : Option Value) (h : Heap) (L : List Loc) : Prop := v = some (.int (Int32.ofNat (own_slot ks cc))) ∧ Fr n0 L ∧ Keep h0 h [a] ∧ own_Strs Z h n0 S
def Q8b (Z : State) (a : Addr) (cs cc : Int32) (ks : List (Option Int32)) (ct : List Int64) (k : Nat) (S : List (Addr × Int32)) (n0 : Nat) (v : Option Value) (h : Heap) (L : List Loc) : Prop := ∃ (bn bc bu : Addr) (vs' : List Value) (ks' : List (Option Int32)) (ct' : List Int64) (un' : List Int32) (k' : Nat) (z : Int64), v = some (.long z) ∧ Fr n0 L ∧ own_CS Z h cs ∧ own_Strs Z h n0 S ∧ own_Tab Z h n0 a bn bc bu vs' ks' ct' un' k' S ∧ k' ≤ k + 1 ∧ ks'.length = ks.length ∧ own_St ks ct cc ks' ct' z
def Q8 (Z : State) (a : Addr) (cs : Int32) (S : List (Addr × Int32)) (n0 : Nat) (v : Option Value) (h : Heap) (L : List Loc) : Prop := ∃ (bn bc bu : Addr) (vs' : List Value) (ks' : List (Option Int32)) (ct' : List Int64) (un' : List Int32) (k' : Nat) (z : Int64), v = some (.long z) ∧ Fr n0 L ∧ own_CS Z h cs ∧ own_Strs Z h n0 S ∧ own_Tab Z h n0 a bn bc bu vs' ks' ct' un' k' S
def Q17 (Z : State) (a : Addr) (cs : Int32) (k : Nat) (S : List (Addr × Int32)) (n0 : Nat) (v : Option Value) (h : Heap) (L : List Loc) : Prop := ∃ (bn bc bu : Addr) (vs' : List Value) (ks' : List (Option Int32)) (ct' : List Int64) (un' : List Int32), v = none ∧ Fr n0 L ∧ own_CS Z h cs ∧ own_Strs Z h n0 S ∧ own_Tab Z h n0 a bn bc bu vs' ks' ct' un' k S ∧ ks'.length = 16
def Q15 (Z : State) (a : Addr) (cs : Int32) (N : Nat) (S : List (Addr × Int32)) (n0 : Nat) (v : Option Value) (h : Heap) (L : List Loc) : Prop := ∃ (bn bc bu : Addr) (vs' : List Value) (ct' : List Int64) (un' : List Int32), v = none ∧ Fr n0 L ∧ own_CS Z h cs ∧ own_Strs Z h n0 S ∧ own_Tab Z h n0 a bn bc bu vs' (List.replicate N none) ct' un' 0 S
def QJ (z : Int64) (h0 : Heap) (n0 : Nat) (v : Option Value) (h : Heap) (L : List Loc) : Prop := v = some (.long z) ∧ Fr n0 L ∧ h = h0
def Q0 (n0 : Nat) (v : Option Value) (h : Heap) (L : List Loc) : Prop := v = some (.int (1 : Int32)) ∧ Fr n0 L
theorem own_ceq {x y : Int64} (h : x = y) : XT.cmpL x y = 0 := by
  subst h
  unfold XT.cmpL
  simp
theorem own_clr {kw : List (Option Int32)} {un : List Int32} {I k q : Nat} (hu : un[I]? = some (Int32.ofNat q)) (hq : q < 32) (hw : kw.length ≤ 32) (H : ∀ (j : Nat) (d : Int32), kw[j]? = some (some d) → ∃ i : Nat, I ≤ i ∧ i < k ∧ un[i]? = some (Int32.ofNat j)) : ∀ (j : Nat) (d : Int32), (kw.set q none)[j]? = some (some d) → ∃ i : Nat, I + 1 ≤ i ∧ i < k ∧ un[i]? = some (Int32.ofNat j) := by
  intro j d hj
  by_cases e : j = q
  · subst e
    have jl : j < kw.length := by simpa using (List.getElem?_eq_some_iff.mp hj).1
    rw [List.getElem?_set_self jl] at hj; cases hj
  · rw [List.getElem?_set_ne (fun z => e z.symm)] at hj
    have jl : j < kw.length := (List.getElem?_eq_some_iff.mp hj).1
    obtain ⟨i, h1, h2, h3⟩ := H j d hj
    refine ⟨i, ?_, h2, h3⟩
    by_cases e' : i = I
    · subst e'
      rw [hu] at h3
      have q' := congrArg Int32.toInt (Option.some.inj h3)
      rw [own_ofi hq, own_ofi (by omega)] at q'
      omega
    · omega
theorem own_notI {s : State} {t : Term} {args : Array Value} {x y : Int32} (ev : t.eval args s none [] s = some (.int x)) (h : (Cond.not (Cond.eq t (.int y))).value args s none s [] = some true) : ¬ x = y := by
  have q : (Term.int y).eval args s none [] s = some (.int y) := rfl
  simpa [Cond.value, ev, q] using h
theorem ef_3 (m : MethodId) (p1 : Int32) : entryFrame m #[(.int p1)] 1 = mkF m 0 #[.val (.int p1)] [] := by first | (simp [entryFrame, mkF, argsToLocals, Value.category]; done) | rfl
set_option maxRecDepth 65536 in
set_option maxHeartbeats 40000000 in
theorem rm3 (l : Launch) (Z : State) (a0 : Array Value) (hw : ∀ d ∈ tables_1, d.before a0 Z = true) (ws : List Jvm.Cond) (p1 : Int32) (h0 : Heap) (n0 : Nat) (Z0 : n0 ≤ h0.size) (hok : own_Ok p1) :
    MetFree l (⟨"java/lang/StringLatin1", "canEncode", "(C)Z"⟩ : MethodName) (head1 (Jvm.Cond.code (⟨"java/lang/StringLatin1", "canEncode", "(C)Z"⟩ : MethodName) jdk_43_method_3_code 1 (some .boolean) :: ws) ({ frames := 0, cells := 0, slots := 0, locals := 0 } : Room)) (fun a U => a = #[(.int p1)] ∧ Z.Warmed39 U.vm ∧ U.heap = h0) (fun _ _ _ _ _ => True) (fun _ U o U' => ∃ v L, o = .returned v ∧ QI 1 h0 n0 v U'.heap L ∧ FrameEnd U o U' L ({ frames := 0, cells := 0, slots := 0, locals := 0 } : Room).cells ({ frames := 0, cells := 0, slots := 0, locals := 0 } : Room).slots) := by
  refine MetFree.of_bodySF (plainFor_of_name pn_3) hisR ?_
  intro p e s m args below meth c s₁ Bd hml0 hP hK
  obtain ⟨rfl, hZ, hh⟩ := hP
  have hx := Bd.exec
  have hby := Bd.bytes
  have hml : c.maxLocals = 1 := hml0
  have hown : s.vm.findClass "java/lang/StringLatin1" = some m.cls := findClass_of_methodNamed Bd.named
  have hnm := (name_of_methodNamed Bd.named Bd.method).1
  have hlk : meth.locks = false := BodyLoose.notSynchronized Bd
  have X0 : Stand p l e ({ frames := 0, cells := 0, slots := 0, locals := 0 } : Room) s m #[(.int p1)] below meth c s₁ [] 0 0 := Stand.of_body Bd
  have e0 : s₁.heap = h0 := by rw [← hh, Bd.state]; rfl
  have N0 := Fr.nil n0
  refine own_start (Q := QI 1 h0 n0) (ef_3 m p1) ?_
  show own_Go p e below _ s₁ (mkF m 0 #[.val (.int p1)] [])
  refine own_by (fun t_ k_ => XS.iloadN X0.here hx rfl (hb hby d3_0) rfl k_) ?_
  show own_Go p e below _ s₁ (mkF m 1 #[.val (.int p1)] [(.int p1)])
  refine own_by (fun t_ k_ => XS.sipush X0.here hx rfl (hb hby d3_1) k_) ?_
  show own_Go p e below _ s₁ (mkF m 4 #[.val (.int p1)] [(.int (255 : Int32)), (.int p1)])
  refine own_icmp X0 hx 11 (hb hby d3_4) (by decide) (by decide) (fun hc => absurd (show ¬ (255 : Int32) < p1 from hok.2) (by first | exact hc | exact not_not_intro hc)) (fun _ => ?_)
  show own_Go p e below _ s₁ (mkF m 7 #[.val (.int p1)] [])
  refine own_by (fun t_ k_ => XS.iconst X0.here hx rfl (hb hby d3_7) k_) ?_
  show own_Go p e below _ s₁ (mkF m 8 #[.val (.int p1)] [(.int (1 : Int32))])
  refine own_by (fun t_ k_ => XS.goto X0.here hx rfl (pc0 := 8) (pc' := 12) rfl (hb hby d3_8) (by decide) (by decide) k_) ?_
  show own_Go p e below _ s₁ (mkF m 12 #[.val (.int p1)] [(.int (1 : Int32))])
  refine own_retZ X0 hx hlk Bd.returns (by decide) (hb hby d3_12) e0 (by decide) (by decide) ?_
  exact ⟨rfl, N0, rfl⟩
theorem ef_4 (m : MethodId) (p1 : Int32) : entryFrame m #[(.int p1)] 1 = mkF m 0 #[.val (.int p1)] [] := by first | (simp [entryFrame, mkF, argsToLocals, Value.category]; done) | rfl
set_option maxRecDepth 65536 in
set_option maxHeartbeats 40000000 in
theorem rm4 (l : Launch) (Z : State) (a0 : Array Value) (hw : ∀ d ∈ tables_1, d.before a0 Z = true) (ws : List Jvm.Cond) (p1 : Int32) (h0 : Heap) (n0 : Nat) (Z0 : n0 ≤ h0.size) :
    MetFree l (⟨"java/lang/StringLatin1", "toBytes", "(C)[B"⟩ : MethodName) (head1 (Jvm.Cond.code (⟨"java/lang/StringLatin1", "toBytes", "(C)[B"⟩ : MethodName) jdk_43_method_46_code 1 (some (.array .byte)) :: ws) ({ frames := 0, cells := 1, slots := 1, locals := 0 } : Room)) (fun a U => a = #[(.int p1)] ∧ Z.Warmed39 U.vm ∧ U.heap = h0) (fun _ _ _ _ _ => True) (fun _ U o U' => ∃ v L, o = .returned v ∧ QA Z [.int (own_by8 p1)] h0 n0 v U'.heap L ∧ FrameEnd U o U' L ({ frames := 0, cells := 1, slots := 1, locals := 0 } : Room).cells ({ frames := 0, cells := 1, slots := 1, locals := 0 } : Room).slots) := by
  refine MetFree.of_bodySF (plainFor_of_name pn_3) hisR ?_
  intro p e s m args below meth c s₁ Bd hml0 hP hK
  obtain ⟨rfl, hZ, hh⟩ := hP
  have hx := Bd.exec
  have hby := Bd.bytes
  have hml : c.maxLocals = 1 := hml0
  have hown : s.vm.findClass "java/lang/StringLatin1" = some m.cls := findClass_of_methodNamed Bd.named
  have hnm := (name_of_methodNamed Bd.named Bd.method).1
  have hlk : meth.locks = false := BodyLoose.notSynchronized Bd
  have X0 : Stand p l e ({ frames := 0, cells := 1, slots := 1, locals := 0 } : Room) s m #[(.int p1)] below meth c s₁ [] 0 0 := Stand.of_body Bd
  have e0 : s₁.heap = h0 := by rw [← hh, Bd.state]; rfl
  have N0 := Fr.nil n0
  refine own_start (Q := QA Z [.int (own_by8 p1)] h0 n0) (ef_4 m p1) ?_
  have K0 := Keep.refl h0 []
  show own_Go p e below _ s₁ (mkF m 0 #[.val (.int p1)] [])
  refine own_by (fun t_ k_ => XS.iconst X0.here hx rfl (hb hby d4_0) k_) ?_
  show own_Go p e below _ s₁ (mkF m 1 #[.val (.int p1)] [(.int (1 : Int32))])
  refine own_newP X0 hx hZ (own_w hw 18 rfl) e0 (hb hby d4_1) 1 1 (by decide) (by decide) (by decide) (by decide) (by decide) ?_
  intro T1 h1 b1 X1 e1 g1 E1 A1
  have g_b1 : n0 ≤ b1 := Nat.le_trans Z0 (Nat.le_of_eq g1.symm)
  have sz1 : n0 ≤ h1.size := Nat.le_trans Z0 E1.1
  have szk_b1 : h0.size ≤ b1 := Nat.le_trans K0.1 (Nat.le_of_eq g1.symm)
  have K1 : Keep h0 h1 [] := K0.ext E1
  have V1_0 : own_Arr Z h1 b1 .byte [(.int (0 : Int32))] := A1
  show own_Go p e below _ T1 (mkF m 3 #[.val (.int p1)] [(.ref b1)])
  refine own_by (fun t_ k_ => XS.dup X1.here hx rfl (hb hby d4_3) rfl rfl k_) ?_
  show own_Go p e below _ T1 (mkF m 4 #[.val (.int p1)] [(.ref b1), (.ref b1)])
  refine own_by (fun t_ k_ => XS.iconst X1.here hx rfl (hb hby d4_4) k_) ?_
  show own_Go p e below _ T1 (mkF m 5 #[.val (.int p1)] [(.int (0 : Int32)), (.ref b1), (.ref b1)])
  refine own_by (fun t_ k_ => XS.iloadN X1.here hx rfl (hb hby d4_5) rfl k_) ?_
  show own_Go p e below _ T1 (mkF m 6 #[.val (.int p1)] [(.int p1), (.int (0 : Int32)), (.ref b1), (.ref b1)])
  refine own_by (fun t_ k_ => XT.i2b X1.here hx rfl (hb hby d4_6) rfl k_) ?_
  show own_Go p e below _ T1 (mkF m 7 #[.val (.int p1)] [(.int p1.toInt8.toInt32), (.int (0 : Int32)), (.ref b1), (.ref b1)])
  refine own_bastore X1 hx hZ e1 V1_0 0 (by decide) (Nat.le_of_ble_eq_true rfl) (hb hby d4_7) ?_
  intro T2 h2 X2 e2 W2 A2
  have V2_0 : own_Arr Z h2 b1 .byte [(.int (nar .byte p1.toInt8.toInt32))] := A2
  have N2 := Fr.snoc X2 N0 g_b1
  have sz2 : n0 ≤ h2.size := Nat.le_trans sz1 (Keep.of_wr W2).1
  have K2 : Keep h0 h2 [] := K1.wr W2 (Or.inr szk_b1)
  show own_Go p e below _ T2 (mkF m 8 #[.val (.int p1)] [(.ref b1)])
  refine own_retR X2 hx hlk Bd.returns rfl rfl rfl (hb hby d4_8) e2 (by decide) (by decide) ?_
  exact ⟨b1, rfl, N2, K2, szk_b1, V2_0⟩
theorem ef_5 (m : MethodId) (a1 : Addr) (a2 : Addr) : entryFrame m #[(.ref a1), (.ref a2), (.int (0 : Int32))] 3 = mkF m 0 #[.val (.ref a1), .val (.ref a2), .val (.int (0 : Int32))] [] := by first | (simp [entryFrame, mkF, argsToLocals, Value.category]; done) | rfl
set_option maxRecDepth 65536 in
set_option maxHeartbeats 40000000 in
theorem rm5 (l : Launch) (Z : State) (a0 : Array Value) (hw : ∀ d ∈ tables_1, d.before a0 Z = true) (ws : List Jvm.Cond) (a1 : Addr) (a2 : Addr) (h0 : Heap) (n0 : Nat) (Z0 : n0 ≤ h0.size) (E_a1 : Exa Z h0 a1 "java/lang/String") (F_coder : Fld Z h0 a1 "java/lang/String" "coder" "B" (.int (0 : Int32))) (F_value : Fld Z h0 a1 "java/lang/String" "value" "[B" .null) (F_hash : Fld Z h0 a1 "java/lang/String" "hash" "I" (.int (0 : Int32))) (F_hashIsZero : Fld Z h0 a1 "java/lang/String" "hashIsZero" "Z" (.int (0 : Int32))) (g_a1 : n0 ≤ a1) :
    MetFree l (⟨"java/lang/String", "<init>", "([BB)V"⟩ : MethodName) (head1 (Jvm.Cond.code (⟨"java/lang/String", "<init>", "([BB)V"⟩ : MethodName) jdk_42_method_151_code 3 none :: ws) ({ frames := 1, cells := 0, slots := 0, locals := 12 } : Room)) (fun a U => a = #[(.ref a1), (.ref a2), (.int (0 : Int32))] ∧ Z.Warmed39 U.vm ∧ U.heap = h0) (fun _ _ _ _ _ => True) (fun _ U o U' => ∃ v L, o = .returned v ∧ QF Z a1 a2 h0 n0 v U'.heap L ∧ FrameEnd U o U' L ({ frames := 1, cells := 0, slots := 0, locals := 12 } : Room).cells ({ frames := 1, cells := 0, slots := 0, locals := 12 } : Room).slots) := by
  refine MetFree.of_bodySF (plainFor_of_name pn_2) hisR ?_
  intro p e s m args below meth c s₁ Bd hml0 hP hK
  obtain ⟨rfl, hZ, hh⟩ := hP
  have hx := Bd.exec
  have hby := Bd.bytes
  have hml : c.maxLocals = 3 := hml0
  have hown : s.vm.findClass "java/lang/String" = some m.cls := findClass_of_methodNamed Bd.named
  have hnm := (name_of_methodNamed Bd.named Bd.method).1
  have hlk : meth.locks = false := BodyLoose.notSynchronized Bd
  have X0 : Stand p l e ({ frames := 1, cells := 0, slots := 0, locals := 12 } : Room) s m #[(.ref a1), (.ref a2), (.int (0 : Int32))] below meth c s₁ [] 0 0 := Stand.of_body Bd
  have e0 : s₁.heap = h0 := by rw [← hh, Bd.state]; rfl
  have N0 := Fr.nil n0
  refine own_start (Q := QF Z a1 a2 h0 n0) (ef_5 m a1 a2) ?_
  have K0 := Keep.refl h0 [a1]
  show own_Go p e below _ s₁ (mkF m 0 #[.val (.ref a1), .val (.ref a2), .val (.int (0 : Int32))] [])
  refine own_by (fun t_ k_ => XS.aloadN X0.here hx rfl (hb hby d5_0) rfl rfl k_) ?_
  show own_Go p e below _ s₁ (mkF m 1 #[.val (.ref a1), .val (.ref a2), .val (.int (0 : Int32))] [(.ref a1)])
  refine own_initO X0 hx hZ hown (own_w hw 23 rfl) (own_w hw 24 rfl) (own_w hw 25 rfl) e0 (by rw [hml]; rfl) (hb hby d5_1) (by decide) (W := 0) (Nat.le_of_eq rfl) (by decide) ?_
  intro T1 X1 e1
  show own_Go p e below _ T1 (mkF m 4 #[.val (.ref a1), .val (.ref a2), .val (.int (0 : Int32))] [])
  refine own_by (fun t_ k_ => XS.aloadN X1.here hx rfl (hb hby d5_4) rfl rfl k_) ?_
  show own_Go p e below _ T1 (mkF m 5 #[.val (.ref a1), .val (.ref a2), .val (.int (0 : Int32))] [(.ref a1)])
  refine own_by (fun t_ k_ => XS.aloadN X1.here hx rfl (hb hby d5_5) rfl rfl k_) ?_
  show own_Go p e below _ T1 (mkF m 6 #[.val (.ref a1), .val (.ref a2), .val (.int (0 : Int32))] [(.ref a2), (.ref a1)])
  refine own_putF X1 hx hZ hown (own_w hw 26 rfl) Via.refl e1 F_value E_a1 (Or.inr ⟨(own_w hw 27 rfl), rfl, hnm⟩) (own_w hw 14 rfl) (ty := (.array .byte)) (by decide) rfl rfl (hb hby d5_6) ?_
  intro T2 h2 X2 e2 W2
  have F2 := Fld.same W2 F_value
  have N2 := Fr.snoc X2 N0 g_a1
  have sz2 : n0 ≤ h2.size := Nat.le_trans Z0 (Keep.of_wr W2).1
  have K2 : Keep h0 h2 [a1] := K0.wr W2 (Or.inl (List.mem_cons_self ..))
  show own_Go p e below _ T2 (mkF m 9 #[.val (.ref a1), .val (.ref a2), .val (.int (0 : Int32))] [])
  refine own_by (fun t_ k_ => XS.aloadN X2.here hx rfl (hb hby d5_9) rfl rfl k_) ?_
  show own_Go p e below _ T2 (mkF m 10 #[.val (.ref a1), .val (.ref a2), .val (.int (0 : Int32))] [(.ref a1)])
  refine own_by (fun t_ k_ => XS.iloadN X2.here hx rfl (hb hby d5_10) rfl k_) ?_
  show own_Go p e below _ T2 (mkF m 11 #[.val (.ref a1), .val (.ref a2), .val (.int (0 : Int32))] [(.int (0 : Int32)), (.ref a1)])
  have F_coder_4 : Fld Z h2 a1 "java/lang/String" "coder" "B" (.int (0 : Int32)) := (Fld.other W2 F_coder (Or.inr (slot_ne (Or.inr (own_w hw 29 rfl)) (Or.inr (own_w hw 27 rfl)) (by decide) (t := .byte) (t' := (.array .byte)) (by decide) (by decide))))
  have E_a1_5 : Exa Z h2 a1 "java/lang/String" := (Exa.wr W2 E_a1)
  refine own_putF X2 hx hZ hown (own_w hw 28 rfl) Via.refl e2 F_coder_4 E_a1_5 (Or.inr ⟨(own_w hw 29 rfl), rfl, hnm⟩) (own_w hw 14 rfl) (ty := .byte) (by decide) rfl rfl (hb hby d5_11) ?_
  intro T3 h3 X3 e3 W3
  have F3 := Fld.same W3 F_coder_4
  have N3 := Fr.snoc X3 N2 g_a1
  have sz3 : n0 ≤ h3.size := Nat.le_trans sz2 (Keep.of_wr W3).1
  have K3 : Keep h0 h3 [a1] := K2.wr W3 (Or.inl (List.mem_cons_self ..))
  show own_Go p e below _ T3 (mkF m 14 #[.val (.ref a1), .val (.ref a2), .val (.int (0 : Int32))] [])
  refine own_retV X3 hx hlk Bd.returns (hb hby d5_14) e3 (by decide) (by decide) ?_
  have E_a1_6 : Exa Z h3 a1 "java/lang/String" := (Exa.wr W3 E_a1_5)
  have F2_7 : Fld Z h3 a1 "java/lang/String" "value" "[B" (.ref a2) := (Fld.other W3 F2 (Or.inr (slot_ne (Or.inr (own_w hw 27 rfl)) (Or.inr (own_w hw 29 rfl)) (by decide) (t := (.array .byte)) (t' := .byte) (by decide) (by decide))))
  have F_hash_8 : Fld Z h3 a1 "java/lang/String" "hash" "I" (.int (0 : Int32)) := (Fld.other W3 (Fld.other W2 F_hash (Or.inr (slot_ne (Or.inl (own_w hw 62 rfl)) (Or.inr (own_w hw 27 rfl)) (by decide) (t := .int) (t' := (.array .byte)) (by decide) (by decide)))) (Or.inr (slot_ne (Or.inl (own_w hw 62 rfl)) (Or.inr (own_w hw 29 rfl)) (by decide) (t := .int) (t' := .byte) (by decide) (by decide))))
  have F_hashIsZero_9 : Fld Z h3 a1 "java/lang/String" "hashIsZero" "Z" (.int (0 : Int32)) := (Fld.other W3 (Fld.other W2 F_hashIsZero (Or.inr (slot_ne (Or.inl (own_w hw 64 rfl)) (Or.inr (own_w hw 27 rfl)) (by decide) (t := .boolean) (t' := (.array .byte)) (by decide) (by decide)))) (Or.inr (slot_ne (Or.inl (own_w hw 64 rfl)) (Or.inr (own_w hw 29 rfl)) (by decide) (t := .boolean) (t' := .byte) (by decide) (by decide))))
  exact ⟨rfl, N3, K3, E_a1_6, F3, F2_7, F_hash_8, F_hashIsZero_9⟩
theorem ef_2 (m : MethodId) (p1 : Int32) : entryFrame m #[(.int p1)] 1 = mkF m 0 #[.val (.int p1)] [] := by first | (simp [entryFrame, mkF, argsToLocals, Value.category]; done) | rfl
set_option maxRecDepth 65536 in
set_option maxHeartbeats 40000000 in
theorem rm2 (l : Launch) (Z : State) (a0 : Array Value) (hw : ∀ d ∈ tables_1, d.before a0 Z = true) (ws : List Jvm.Cond) (p1 : Int32) (cs : Int32) (h0 : Heap) (n0 : Nat) (Z0 : n0 ≤ h0.size) (S_cs : Sta Z h0 "java/lang/String" "COMPACT_STRINGS" "Z" (.int cs)) (hcs : ¬ cs = 0) (hok : own_Ok p1) :
    MetFree l (⟨"java/lang/String", "valueOf", "(C)Ljava/lang/String;"⟩ : MethodName) (head1 (Jvm.Cond.code (⟨"java/lang/String", "valueOf", "(C)Ljava/lang/String;"⟩ : MethodName) jdk_42_method_139_code 1 (some (.object "java/lang/String")) :: ws) ({ frames := 2, cells := 2, slots := 5, locals := 40 } : Room)) (fun a U => a = #[(.int p1)] ∧ Z.Warmed39 U.vm ∧ U.heap = h0) (fun _ _ _ _ _ => True) (fun _ U o U' => ∃ v L, o = .returned v ∧ QR Z p1 h0 n0 v U'.heap L ∧ FrameEnd U o U' L ({ frames := 2, cells := 2, slots := 5, locals := 40 } : Room).cells ({ frames := 2, cells := 2, slots := 5, locals := 40 } : Room).slots) := by
  refine MetFree.of_bodySF (plainFor_of_name pn_2) hisR ?_
  intro p e s m args below meth c s₁ Bd hml0 hP hK
  obtain ⟨rfl, hZ, hh⟩ := hP
  have hx := Bd.exec
  have hby := Bd.bytes
  have hml : c.maxLocals = 1 := hml0
  have hown : s.vm.findClass "java/lang/String" = some m.cls := findClass_of_methodNamed Bd.named
  have hnm := (name_of_methodNamed Bd.named Bd.method).1
  have hlk : meth.locks = false := BodyLoose.notSynchronized Bd
  have X0 : Stand p l e ({ frames := 2, cells := 2, slots := 5, locals := 40 } : Room) s m #[(.int p1)] below meth c s₁ [] 0 0 := Stand.of_body Bd
  have e0 : s₁.heap = h0 := by rw [← hh, Bd.state]; rfl
  have N0 := Fr.nil n0
  refine own_start (Q := QR Z p1 h0 n0) (ef_2 m p1) ?_
  have K0 := Keep.refl h0 []
  show own_Go p e below _ s₁ (mkF m 0 #[.val (.int p1)] [])
  refine own_getS X0 hx hZ hown (own_w hw 8 rfl) Via.refl e0 S_cs (hb hby d2_0) ?_
  intro T1 X1 e1
  show own_Go p e below _ T1 (mkF m 3 #[.val (.int p1)] [(.int cs)])
  refine own_if X1 hx 26 (hb hby d2_3) (by decide) (by decide) (fun hc => absurd (show ¬ cs = (0 : Int32) from hcs) (by first | exact hc | exact not_not_intro hc)) (fun _ => ?_)
  show own_Go p e below _ T1 (mkF m 6 #[.val (.int p1)] [])
  refine own_by (fun t_ k_ => XS.iloadN X1.here hx rfl (hb hby d2_6) rfl k_) ?_
  show own_Go p e below _ T1 (mkF m 7 #[.val (.int p1)] [(.int p1)])
  refine own_callS (W := 0) X1 hx hZ (y := (⟨"java/lang/StringLatin1", "canEncode", "(C)Z"⟩ : MethodName)) hown (own_w hw 9 rfl) (own_w hw 10 rfl) (own_w hw 11 rfl) (own_w hw 12 rfl) (by decide) (by rw [hml]; rfl) (argsL := [(.int p1)]) pd_2 rfl (rm3 l Z a0 hw [] p1 h0 n0 Z0 hok) (by decide) (by decide) (Nat.le_of_eq rfl) (by decide) (by decide) (rest := []) e1 rfl (hb hby d2_7) ?_
  intro v2 T2 L2 X2 hQ2
  obtain ⟨rfl, N2q, e2⟩ := hQ2
  have N2 := Fr.app N0 N2q
  show own_Go p e below _ T2 (mkF m 10 #[.val (.int p1)] [(.int (1 : Int32))])
  refine own_if X2 hx 26 (hb hby d2_10) (by decide) (by decide) (fun hc => absurd (show ¬ (1 : Int32) = (0 : Int32) from by decide) (by first | exact hc | exact not_not_intro hc)) (fun _ => ?_)
  show own_Go p e below _ T2 (mkF m 13 #[.val (.int p1)] [])
  refine own_newO X2 hx hZ hown (own_w hw 13 rfl) (own_w hw 14 rfl) (own_w hw 6 rfl) e2 (hb hby d2_13) (by decide) (by decide) ?_
  intro T3 h3 b3 X3 e3 g3 E3 A3 D3
  have g_b3 : n0 ≤ b3 := Nat.le_trans Z0 (Nat.le_of_eq g3.symm)
  have sz3 : n0 ≤ h3.size := Nat.le_trans Z0 E3.1
  have szk_b3 : h0.size ≤ b3 := Nat.le_trans K0.1 (Nat.le_of_eq g3.symm)
  have K3 : Keep h0 h3 [] := K0.ext E3
  have F4_0 : Fld Z h3 b3 "java/lang/String" "value" "[B" .null := D3 (Or.inr (own_w hw 27 rfl)) (ty := (.array .byte)) (by decide)
  have F5_0 : Fld Z h3 b3 "java/lang/String" "coder" "B" (.int (0 : Int32)) := D3 (Or.inr (own_w hw 29 rfl)) (ty := .byte) (by decide)
  have F6_0 : Fld Z h3 b3 "java/lang/String" "hash" "I" (.int (0 : Int32)) := D3 (Or.inl (own_w hw 62 rfl)) (ty := .int) (by decide)
  have F7_0 : Fld Z h3 b3 "java/lang/String" "hashIsZero" "Z" (.int (0 : Int32)) := D3 (Or.inl (own_w hw 64 rfl)) (ty := .boolean) (by decide)
  show own_Go p e below _ T3 (mkF m 16 #[.val (.int p1)] [(.ref b3)])
  refine own_by (fun t_ k_ => XS.dup X3.here hx rfl (hb hby d2_16) rfl rfl k_) ?_
  show own_Go p e below _ T3 (mkF m 17 #[.val (.int p1)] [(.ref b3), (.ref b3)])
  refine own_by (fun t_ k_ => XS.iloadN X3.here hx rfl (hb hby d2_17) rfl k_) ?_
  show own_Go p e below _ T3 (mkF m 18 #[.val (.int p1)] [(.int p1), (.ref b3), (.ref b3)])
  refine own_callS (W := 2) X3 hx hZ (y := (⟨"java/lang/StringLatin1", "toBytes", "(C)[B"⟩ : MethodName)) hown (own_w hw 15 rfl) (own_w hw 16 rfl) (own_w hw 11 rfl) (own_w hw 17 rfl) (by decide) (by rw [hml]; rfl) (argsL := [(.int p1)]) pd_3 rfl (rm4 l Z a0 hw [] p1 h3 n0 sz3) (by decide) (by decide) (Nat.le_of_eq rfl) (by decide) (by decide) (rest := [(.ref b3), (.ref b3)]) e3 rfl (hb hby d2_18) ?_
  intro v8 T8 L8 X8 hQ8
  obtain ⟨r8, rfl, N8q, K8q, hb8, A8⟩ := hQ8
  have lt_b3_r8 : b3 < r8 := Nat.lt_of_lt_of_le A3.lt hb8
  have N8 := Fr.app N2 N8q
  have sz8 : n0 ≤ T8.heap.size := Nat.le_trans sz3 K8q.1
  have K8 : Keep h0 T8.heap [] := K3.trans K8q (all0)
  show own_Go p e below _ T8 (mkF m 21 #[.val (.int p1)] [(.ref r8), (.ref b3), (.ref b3)])
  refine own_by (fun t_ k_ => XS.iconst X8.here hx rfl (hb hby d2_21) k_) ?_
  show own_Go p e below _ T8 (mkF m 22 #[.val (.int p1)] [(.int (0 : Int32)), (.ref r8), (.ref b3), (.ref b3)])
  have A3_9 : Exa Z T8.heap b3 "java/lang/String" := (Exa.keep A3 K8q)
  have F5_10 : Fld Z T8.heap b3 "java/lang/String" "coder" "B" (.int (0 : Int32)) := (Fld.keep F5_0 K8q nin0)
  have F4_11 : Fld Z T8.heap b3 "java/lang/String" "value" "[B" .null := (Fld.keep F4_0 K8q nin0)
  have F6_12 : Fld Z T8.heap b3 "java/lang/String" "hash" "I" (.int (0 : Int32)) := (Fld.keep F6_0 K8q nin0)
  have F7_13 : Fld Z T8.heap b3 "java/lang/String" "hashIsZero" "Z" (.int (0 : Int32)) := (Fld.keep F7_0 K8q nin0)
  refine own_callC (W := 1) X8 hx hZ (y := (⟨"java/lang/String", "<init>", "([BB)V"⟩ : MethodName)) rfl hown (own_w hw 19 rfl) (own_w hw 20 rfl) (own_w hw 6 rfl) (own_w hw 22 rfl) (by decide) (by rw [hml]; rfl) (argsL := [(.ref r8), (.int (0 : Int32))]) pd_4 rfl (a := b3) (rm5 l Z a0 hw [] b3 r8 T8.heap n0 sz8 A3_9 F5_10 F4_11 F6_12 F7_13 g_b3) (by decide) (by decide) (Nat.le_of_eq rfl) (by decide) (by decide) (rest := [(.ref b3)]) rfl rfl (hb hby d2_22) ?_
  intro v14 T14 L14 X14 hQ14
  obtain ⟨rfl, N14q, K14q, E14, F14_1, F14_2, F14_3, F14_4⟩ := hQ14
  have N14 := Fr.app N8 N14q
  have sz14 : n0 ≤ T14.heap.size := Nat.le_trans sz8 K14q.1
  have K14 : Keep h0 T14.heap [] := K8.trans K14q (allS (Or.inr szk_b3) all0)
  show own_Go p e below _ T14 (mkF m 25 #[.val (.int p1)] [(.ref b3)])
  refine own_retR X14 hx hlk Bd.returns rfl rfl rfl (hb hby d2_25) rfl (by decide) (by decide) ?_
  have A8_15 : own_Arr Z T14.heap r8 .byte [(.int (own_by8 p1))] := (own_Arr.keep A8 K14q (ninS (Ne.symm (Nat.ne_of_lt lt_b3_r8)) nin0))
  exact ⟨b3, rfl, N14, K14, szk_b3, g_b3, r8, 0, 0, E14, F14_1, F14_2, F14_3, F14_4, A8_15, Or.inl rfl, Or.inl rfl, Or.inl rfl⟩
theorem ef_1 (m : MethodId) (p1 : Int32) : entryFrame m #[(.int p1)] 1 = mkF m 0 #[.val (.int p1)] [] := by first | (simp [entryFrame, mkF, argsToLocals, Value.category]; done) | rfl
set_option maxRecDepth 65536 in
set_option maxHeartbeats 40000000 in
theorem rm1 (l : Launch) (Z : State) (a0 : Array Value) (hw : ∀ d ∈ tables_1, d.before a0 Z = true) (ws : List Jvm.Cond) (p1 : Int32) (cs : Int32) (h0 : Heap) (n0 : Nat) (Z0 : n0 ≤ h0.size) (S_cs : Sta Z h0 "java/lang/String" "COMPACT_STRINGS" "Z" (.int cs)) (hcs : ¬ cs = 0) :
    MetFree l (⟨"com/example/hedgewalk/hedgewalk/input/ChildCountsClearPinLaw", "name", "(I)Ljava/lang/String;"⟩ : MethodName) (head1 (Jvm.Cond.code (⟨"com/example/hedgewalk/hedgewalk/input/ChildCountsClearPinLaw", "name", "(I)Ljava/lang/String;"⟩ : MethodName) method_2_code 1 (some (.object "java/lang/String")) :: ws) ({ frames := 3, cells := 2, slots := 5, locals := 54 } : Room)) (fun a U => a = #[(.int p1)] ∧ Z.Warmed39 U.vm ∧ U.heap = h0) (fun _ _ _ _ _ => True) (fun _ U o U' => ∃ v L, o = .returned v ∧ QR Z (p1 &&& 255) h0 n0 v U'.heap L ∧ FrameEnd U o U' L ({ frames := 3, cells := 2, slots := 5, locals := 54 } : Room).cells ({ frames := 3, cells := 2, slots := 5, locals := 54 } : Room).slots) := by
  refine MetFree.of_bodySF (plainFor_of_name pn_0) hisR ?_
  intro p e s m args below meth c s₁ Bd hml0 hP hK
  obtain ⟨rfl, hZ, hh⟩ := hP
  have hx := Bd.exec
  have hby := Bd.bytes
  have hml : c.maxLocals = 1 := hml0
  have hown : s.vm.findClass "com/example/hedgewalk/hedgewalk/input/ChildCountsClearPinLaw" = some m.cls := findClass_of_methodNamed Bd.named
  have hnm := (name_of_methodNamed Bd.named Bd.method).1
  have hlk : meth.locks = false := BodyLoose.notSynchronized Bd
  have X0 : Stand p l e ({ frames := 3, cells := 2, slots := 5, locals := 54 } : Room) s m #[(.int p1)] below meth c s₁ [] 0 0 := Stand.of_body Bd
  have e0 : s₁.heap = h0 := by rw [← hh, Bd.state]; rfl
  have N0 := Fr.nil n0
  refine own_start (Q := QR Z (p1 &&& 255) h0 n0) (ef_1 m p1) ?_
  have K0 := Keep.refl h0 []
  show own_Go p e below _ s₁ (mkF m 0 #[.val (.int p1)] [])
  refine own_by (fun t_ k_ => XS.iloadN X0.here hx rfl (hb hby d1_0) rfl k_) ?_
  show own_Go p e below _ s₁ (mkF m 1 #[.val (.int p1)] [(.int p1)])
  refine own_by (fun t_ k_ => XS.sipush X0.here hx rfl (hb hby d1_1) k_) ?_
  show own_Go p e below _ s₁ (mkF m 4 #[.val (.int p1)] [(.int (255 : Int32)), (.int p1)])
  refine own_by (fun t_ k_ => XS.iand X0.here hx rfl (hb hby d1_4) rfl k_) ?_
  show own_Go p e below _ s₁ (mkF m 5 #[.val (.int p1)] [(.int (p1 &&& (255 : Int32)))])
  refine own_by (fun t_ k_ => XT.i2c X0.here hx rfl (hb hby d1_5) rfl k_) ?_
  show own_Go p e below _ s₁ (mkF m 6 #[.val (.int p1)] [(.int (p1 &&& (255 : Int32)).toUInt32.toUInt16.toUInt32.toInt32)])
  have hok : own_Ok (p1 &&& (255 : Int32)).toUInt32.toUInt16.toUInt32.toInt32 := by rw [i2c_mask]; exact own_mok p1
  have hv : (p1 &&& (255 : Int32)).toUInt32.toUInt16.toUInt32.toInt32 = p1 &&& 255 := i2c_mask _
  refine own_callS (W := 0) X0 hx hZ (y := (⟨"java/lang/String", "valueOf", "(C)Ljava/lang/String;"⟩ : MethodName)) hown (own_w hw 4 rfl) (own_w hw 5 rfl) (own_w hw 6 rfl) (own_w hw 7 rfl) (by decide) (by rw [hml]; rfl) (argsL := [(.int (p1 &&& (255 : Int32)).toUInt32.toUInt16.toUInt32.toInt32)]) pd_1 rfl (rm2 l Z a0 hw [] (p1 &&& (255 : Int32)).toUInt32.toUInt16.toUInt32.toInt32 cs h0 n0 Z0 S_cs hcs hok) (by decide) (by decide) (Nat.le_of_eq rfl) (by decide) (by decide) (rest := []) e0 rfl (hb hby d1_6) ?_
  intro v1 T1 L1 X1 hQ1
  rw [hv] at hQ1
  obtain ⟨r1, rfl, N1q, K1q, hb1, gr1, HN1⟩ := hQ1
  have N1 := Fr.app N0 N1q
  have sz1 : n0 ≤ T1.heap.size := Nat.le_trans Z0 K1q.1
  have K1 : Keep h0 T1.heap [] := K0.trans K1q (all0)
  show own_Go p e below _ T1 (mkF m 9 #[.val (.int p1)] [(.ref r1)])
  refine own_retR X1 hx hlk Bd.returns rfl rfl rfl (hb hby d1_9) rfl (by decide) (by decide) ?_
  exact ⟨r1, rfl, N1, K1, hb1, gr1, HN1⟩
theorem ef_11 (m : MethodId) (a1 : Addr) : entryFrame m #[(.ref a1)] 1 = mkF m 0 #[.val (.ref a1)] [] := by first | (simp [entryFrame, mkF, argsToLocals, Value.category]; done) | rfl
set_option maxRecDepth 65536 in
set_option maxHeartbeats 40000000 in
theorem rm11 (l : Launch) (Z : State) (a0 : Array Value) (hw : ∀ d ∈ tables_1, d.before a0 Z = true) (ws : List Jvm.Cond) (a1 : Addr) (cs : Int32) (h0 : Heap) (n0 : Nat) (Z0 : n0 ≤ h0.size) (S_cs : Sta Z h0 "java/lang/String" "COMPACT_STRINGS" "Z" (.int cs)) (hcs : ¬ cs = 0) (F_1 : Fld Z h0 a1 "java/lang/String" "coder" "B" (.int (0 : Int32))) :
    MetFree l (⟨"java/lang/String", "isLatin1", "()Z"⟩ : MethodName) (head1 (Jvm.Cond.code (⟨"java/lang/String", "isLatin1", "()Z"⟩ : MethodName) jdk_42_method_154_code 1 (some .boolean) :: ws) ({ frames := 0, cells := 0, slots := 0, locals := 0 } : Room)) (fun a U => a = #[(.ref a1)] ∧ Z.Warmed39 U.vm ∧ U.heap = h0) (fun _ _ _ _ _ => True) (fun _ U o U' => ∃ v L, o = .returned v ∧ QI 1 h0 n0 v U'.heap L ∧ FrameEnd U o U' L ({ frames := 0, cells := 0, slots := 0, locals := 0 } : Room).cells ({ frames := 0, cells := 0, slots := 0, locals := 0 } : Room).slots) := by
  refine MetFree.of_bodySF (plainFor_of_name pn_2) hisR ?_
  intro p e s m args below meth c s₁ Bd hml0 hP hK
  obtain ⟨rfl, hZ, hh⟩ := hP
  have hx := Bd.exec
  have hby := Bd.bytes
  have hml : c.maxLocals = 1 := hml0
  have hown : s.vm.findClass "java/lang/String" = some m.cls := findClass_of_methodNamed Bd.named
  have hnm := (name_of_methodNamed Bd.named Bd.method).1
  have hlk : meth.locks = false := BodyLoose.notSynchronized Bd
  have X0 : Stand p l e ({ frames := 0, cells := 0, slots := 0, locals := 0 } : Room) s m #[(.ref a1)] below meth c s₁ [] 0 0 := Stand.of_body Bd
  have e0 : s₁.heap = h0 := by rw [← hh, Bd.state]; rfl
  have N0 := Fr.nil n0
  refine own_start (Q := QI 1 h0 n0) (ef_11 m a1) ?_
  show own_Go p e below _ s₁ (mkF m 0 #[.val (.ref a1)] [])
  refine own_getS X0 hx hZ hown (own_w hw 8 rfl) Via.refl e0 S_cs (hb hby d11_0) ?_
  intro T1 X1 e1
  show own_Go p e below _ T1 (mkF m 3 #[.val (.ref a1)] [(.int cs)])
  refine own_if X1 hx 17 (hb hby d11_3) (by decide) (by decide) (fun hc => absurd (show ¬ cs = (0 : Int32) from hcs) (by first | exact hc | exact not_not_intro hc)) (fun _ => ?_)
  show own_Go p e below _ T1 (mkF m 6 #[.val (.ref a1)] [])
  refine own_by (fun t_ k_ => XS.aloadN X1.here hx rfl (hb hby d11_6) rfl rfl k_) ?_
  show own_Go p e below _ T1 (mkF m 7 #[.val (.ref a1)] [(.ref a1)])
  refine own_getF X1 hx hZ hown (own_w hw 28 rfl) Via.refl e1 F_1 (hb hby d11_7) ?_
  intro T2 X2 e2
  show own_Go p e below _ T2 (mkF m 10 #[.val (.ref a1)] [(.int (0 : Int32))])
  refine own_if X2 hx 17 (hb hby d11_10) (by decide) (by decide) (fun hc => absurd (show (0 : Int32) = (0 : Int32) from by decide) (by first | exact hc | exact not_not_intro hc)) (fun _ => ?_)
  show own_Go p e below _ T2 (mkF m 13 #[.val (.ref a1)] [])
  refine own_by (fun t_ k_ => XS.iconst X2.here hx rfl (hb hby d11_13) k_) ?_
  show own_Go p e below _ T2 (mkF m 14 #[.val (.ref a1)] [(.int (1 : Int32))])
  refine own_by (fun t_ k_ => XS.goto X2.here hx rfl (pc0 := 14) (pc' := 18) rfl (hb hby d11_14) (by decide) (by decide) k_) ?_
  show own_Go p e below _ T2 (mkF m 18 #[.val (.ref a1)] [(.int (1 : Int32))])
  refine own_retZ X2 hx hlk Bd.returns (by decide) (hb hby d11_18) e2 (by decide) (by decide) ?_
  exact ⟨rfl, N0, rfl⟩
theorem ef_12 (m : MethodId) (a1 : Addr) : entryFrame m #[(.ref a1)] 1 = mkF m 0 #[.val (.ref a1)] [] := by first | (simp [entryFrame, mkF, argsToLocals, Value.category]; done) | rfl
set_option maxRecDepth 65536 in
set_option maxHeartbeats 40000000 in
theorem rm12 (l : Launch) (Z : State) (a0 : Array Value) (hw : ∀ d ∈ tables_1, d.before a0 Z = true) (ws : List Jvm.Cond) (a1 : Addr) (x : Int32) (h0 : Heap) (n0 : Nat) (Z0 : n0 ≤ h0.size) (V_1 : own_Arr Z h0 a1 .byte [.int x]) :
    MetFree l (⟨"java/lang/StringLatin1", "hashCode", "([B)I"⟩ : MethodName) (head1 (Jvm.Cond.code (⟨"java/lang/StringLatin1", "hashCode", "([B)I"⟩ : MethodName) jdk_43_method_21_code 1 (some .int) :: ws) ({ frames := 0, cells := 0, slots := 0, locals := 0 } : Room)) (fun a U => a = #[(.ref a1)] ∧ Z.Warmed39 U.vm ∧ U.heap = h0) (fun _ _ _ _ _ => True) (fun _ U o U' => ∃ v L, o = .returned v ∧ QI (x &&& 255) h0 n0 v U'.heap L ∧ FrameEnd U o U' L ({ frames := 0, cells := 0, slots := 0, locals := 0 } : Room).cells ({ frames := 0, cells := 0, slots := 0, locals := 0 } : Room).slots) := by
  refine MetFree.of_bodySF (plainFor_of_name pn_3) hisR ?_
  intro p e s m args below meth c s₁ Bd hml0 hP hK
  obtain ⟨rfl, hZ, hh⟩ := hP
  have hx := Bd.exec
  have hby := Bd.bytes
  have hml : c.maxLocals = 1 := hml0
  have hown : s.vm.findClass "java/lang/StringLatin1" = some m.cls := findClass_of_methodNamed Bd.named
  have hnm := (name_of_methodNamed Bd.named Bd.method).1
  have hlk : meth.locks = false := BodyLoose.notSynchronized Bd
  have X0 : Stand p l e ({ frames := 0, cells := 0, slots := 0, locals := 0 } : Room) s m #[(.ref a1)] below meth c s₁ [] 0 0 := Stand.of_body Bd
  have e0 : s₁.heap = h0 := by rw [← hh, Bd.state]; rfl
  have N0 := Fr.nil n0
  refine own_start (Q := QI (x &&& 255) h0 n0) (ef_12 m a1) ?_
  show own_Go p e below _ s₁ (mkF m 0 #[.val (.ref a1)] [])
  refine own_by (fun t_ k_ => XS.aloadN X0.here hx rfl (hb hby d12_0) rfl rfl k_) ?_
  show own_Go p e below _ s₁ (mkF m 1 #[.val (.ref a1)] [(.ref a1)])
  refine own_alen X0 hx hZ e0 V_1 (hb hby d12_1) ?_
  show own_Go p e below _ s₁ (mkF m 2 #[.val (.ref a1)] [(.int (1 : Int32))])
  refine own_lsw X0 hx (o := 30) (pc' := 32) (by intro a b a' b' h; simp at h; omega) (by decide) (by decide) (by decide) (hb hby d12_2) ?_
  show own_Go p e below _ s₁ (mkF m 32 #[.val (.ref a1)] [])
  refine own_by (fun t_ k_ => XS.aloadN X0.here hx rfl (hb hby d12_32) rfl rfl k_) ?_
  show own_Go p e below _ s₁ (mkF m 33 #[.val (.ref a1)] [(.ref a1)])
  refine own_by (fun t_ k_ => XS.iconst X0.here hx rfl (hb hby d12_33) k_) ?_
  show own_Go p e below _ s₁ (mkF m 34 #[.val (.ref a1)] [(.int (0 : Int32)), (.ref a1)])
  refine own_baload X0 hx hZ e0 V_1 (v := (.int x)) 0 (by decide) rfl (hb hby d12_34) ?_
  show own_Go p e below _ s₁ (mkF m 35 #[.val (.ref a1)] [(.int x)])
  refine own_by (fun t_ k_ => XS.sipush X0.here hx rfl (hb hby d12_35) k_) ?_
  show own_Go p e below _ s₁ (mkF m 38 #[.val (.ref a1)] [(.int (255 : Int32)), (.int x)])
  refine own_by (fun t_ k_ => XS.iand X0.here hx rfl (hb hby d12_38) rfl k_) ?_
  show own_Go p e below _ s₁ (mkF m 39 #[.val (.ref a1)] [(.int (x &&& (255 : Int32)))])
  refine own_by (fun t_ k_ => XS.goto X0.here hx rfl (pc0 := 39) (pc' := 51) rfl (hb hby d12_39) (by decide) (by decide) k_) ?_
  show own_Go p e below _ s₁ (mkF m 51 #[.val (.ref a1)] [(.int (x &&& (255 : Int32)))])
  refine own_retI X0 hx hlk Bd.returns (hb hby d12_51) e0 (by decide) (by decide) ?_
  exact ⟨rfl, N0, rfl⟩
theorem ef_10 (m : MethodId) (a1 : Addr) : entryFrame m #[(.ref a1)] 2 = mkF m 0 #[.val (.ref a1), .unset] [] := by first | (simp [entryFrame, mkF, argsToLocals, Value.category]; done) | rfl
set_option maxRecDepth 65536 in
set_option maxHeartbeats 40000000 in
theorem rm10 (l : Launch) (Z : State) (a0 : Array Value) (hw : ∀ d ∈ tables_1, d.before a0 Z = true) (ws : List Jvm.Cond) (a1 : Addr) (cc : Int32) (cs : Int32) (h0 : Heap) (n0 : Nat) (Z0 : n0 ≤ h0.size) (S_cs : Sta Z h0 "java/lang/String" "COMPACT_STRINGS" "Z" (.int cs)) (hcs : ¬ cs = 0) (HN : own_Nm Z h0 a1 cc) (hok : own_Ok cc) (g_a1 : n0 ≤ a1) :
    MetFree l (⟨"java/lang/String", "hashCode", "()I"⟩ : MethodName) (head1 (Jvm.Cond.code (⟨"java/lang/String", "hashCode", "()I"⟩ : MethodName) jdk_42_method_78_code 2 (some .int) :: ws) ({ frames := 1, cells := 0, slots := 0, locals := 14 } : Room)) (fun a U => a = #[(.ref a1)] ∧ Z.Warmed39 U.vm ∧ U.heap = h0) (fun _ _ _ _ _ => True) (fun _ U o U' => ∃ v L, o = .returned v ∧ QH Z a1 cc h0 n0 v U'.heap L ∧ FrameEnd U o U' L ({ frames := 1, cells := 0, slots := 0, locals := 14 } : Room).cells ({ frames := 1, cells := 0, slots := 0, locals := 14 } : Room).slots) := by
  refine MetFree.of_bodySF (plainFor_of_name pn_2) hisR ?_
  intro p e s m args below meth c s₁ Bd hml0 hP hK
  obtain ⟨rfl, hZ, hh⟩ := hP
  have hx := Bd.exec
  have hby := Bd.bytes
  have hml : c.maxLocals = 2 := hml0
  have hown : s.vm.findClass "java/lang/String" = some m.cls := findClass_of_methodNamed Bd.named
  have hnm := (name_of_methodNamed Bd.named Bd.method).1
  have hlk : meth.locks = false := BodyLoose.notSynchronized Bd
  have X0 : Stand p l e ({ frames := 1, cells := 0, slots := 0, locals := 14 } : Room) s m #[(.ref a1)] below meth c s₁ [] 0 0 := Stand.of_body Bd
  have e0 : s₁.heap = h0 := by rw [← hh, Bd.state]; rfl
  have N0 := Fr.nil n0
  refine own_start (Q := QH Z a1 cc h0 n0) (ef_10 m a1) ?_
  have K0 := Keep.refl h0 [a1]
  obtain ⟨t, hs, hz, E_a1, F_coder, F_value, F_hash, F_hz, V_t, h1, h2, h3⟩ := HN
  have hne : a1 ≠ t := own_exa_arr E_a1 (own_w hw 14 rfl) V_t
  show own_Go p e below _ s₁ (mkF m 0 #[.val (.ref a1), .unset] [])
  refine own_by (fun t_ k_ => XS.aloadN X0.here hx rfl (hb hby d10_0) rfl rfl k_) ?_
  show own_Go p e below _ s₁ (mkF m 1 #[.val (.ref a1), .unset] [(.ref a1)])
  refine own_getF X0 hx hZ hown (own_w hw 61 rfl) Via.refl e0 F_hash (hb hby d10_1) ?_
  intro T1 X1 e1
  show own_Go p e below _ T1 (mkF m 4 #[.val (.ref a1), .unset] [(.int hs)])
  refine own_by (fun t_ k_ => XS.istoreN X1.here hx rfl (hb hby d10_4) rfl (l' := #[.val (.ref a1), .val (.int hs)]) rfl k_) ?_
  show own_Go p e below _ T1 (mkF m 5 #[.val (.ref a1), .val (.int hs)] [])
  refine own_by (fun t_ k_ => XS.iloadN X1.here hx rfl (hb hby d10_5) rfl k_) ?_
  show own_Go p e below _ T1 (mkF m 6 #[.val (.ref a1), .val (.int hs)] [(.int hs)])
  refine own_if X1 hx 58 (hb hby d10_6) (by decide) (by decide) (fun (hc6 : ¬ hs = (0 : Int32)) => ?_) (fun (hc6 : hs = (0 : Int32)) => ?_)
  · show own_Go p e below _ T1 (mkF m 58 #[.val (.ref a1), .val (.int hs)] [])
    refine own_by (fun t_ k_ => XS.iloadN X1.here hx rfl (hb hby d10_58) rfl k_) ?_
    show own_Go p e below _ T1 (mkF m 59 #[.val (.ref a1), .val (.int hs)] [(.int hs)])
    refine own_retI X1 hx hlk Bd.returns (hb hby d10_59) e1 (by decide) (by decide) ?_
    exact ⟨by rcases h1 with q | q; exact absurd q hc6; rw [q], N0, K0, t, _, _, E_a1, F_coder, F_value, F_hash, F_hz, V_t, h1, h2, h3⟩
  · show own_Go p e below _ T1 (mkF m 9 #[.val (.ref a1), .val (.int hs)] [])
    refine own_by (fun t_ k_ => XS.aloadN X1.here hx rfl (hb hby d10_9) rfl rfl k_) ?_
    show own_Go p e below _ T1 (mkF m 10 #[.val (.ref a1), .val (.int hs)] [(.ref a1)])
    refine own_getF X1 hx hZ hown (own_w hw 63 rfl) Via.refl e1 F_hz (hb hby d10_10) ?_
    intro T2 X2 e2
    show own_Go p e below _ T2 (mkF m 13 #[.val (.ref a1), .val (.int hs)] [(.int hz)])
    refine own_if X2 hx 58 (hb hby d10_13) (by decide) (by decide) (fun (hc13 : ¬ hz = (0 : Int32)) => ?_) (fun (hc13 : hz = (0 : Int32)) => ?_)
    · show own_Go p e below _ T2 (mkF m 58 #[.val (.ref a1), .val (.int hs)] [])
      refine own_by (fun t_ k_ => XS.iloadN X2.here hx rfl (hb hby d10_58) rfl k_) ?_
      show own_Go p e below _ T2 (mkF m 59 #[.val (.ref a1), .val (.int hs)] [(.int hs)])
      refine own_retI X2 hx hlk Bd.returns (hb hby d10_59) e2 (by decide) (by decide) ?_
      exact ⟨by rw [hc6]; rcases h2 with q | q; exact absurd q hc13; rw [q], N0, K0, t, _, _, E_a1, F_coder, F_value, F_hash, F_hz, V_t, h1, h2, h3⟩
    · show own_Go p e below _ T2 (mkF m 16 #[.val (.ref a1), .val (.int hs)] [])
      refine own_by (fun t_ k_ => XS.aloadN X2.here hx rfl (hb hby d10_16) rfl rfl k_) ?_
      show own_Go p e below _ T2 (mkF m 17 #[.val (.ref a1), .val (.int hs)] [(.ref a1)])
      refine own_callV (W := 0) X2 hx hZ (y := (⟨"java/lang/String", "isLatin1", "()Z"⟩ : MethodName)) (z := (⟨"java/lang/String", "isLatin1", "()Z"⟩ : MethodName)) hown (own_w hw 65 rfl) (own_w hw 66 rfl) (notFace_of_selects (args := #[]) (mvT hZ (own_w hw 68 rfl))) (own_w hw 68 rfl) (own_w hw 67 rfl) (own_w hw 6 rfl) (own_w hw 69 rfl) (by decide) (by rw [hml]; rfl) (argsL := []) pd_9 rfl (a := a1) e2 E_a1 (rm11 l Z a0 hw [] a1 cs h0 n0 Z0 S_cs hcs F_coder) (by decide) (by decide) (Nat.le_of_eq rfl) (by decide) (by decide) (rest := []) rfl (hb hby d10_17) ?_
      intro v3 T3 L3 X3 hQ3
      obtain ⟨rfl, N3q, e3⟩ := hQ3
      have N3 := Fr.app N0 N3q
      show own_Go p e below _ T3 (mkF m 20 #[.val (.ref a1), .val (.int hs)] [(.int (1 : Int32))])
      refine own_if X3 hx 33 (hb hby d10_20) (by decide) (by decide) (fun hc => absurd (show ¬ (1 : Int32) = (0 : Int32) from by decide) (by first | exact hc | exact not_not_intro hc)) (fun _ => ?_)
      show own_Go p e below _ T3 (mkF m 23 #[.val (.ref a1), .val (.int hs)] [])
      refine own_by (fun t_ k_ => XS.aloadN X3.here hx rfl (hb hby d10_23) rfl rfl k_) ?_
      show own_Go p e below _ T3 (mkF m 24 #[.val (.ref a1), .val (.int hs)] [(.ref a1)])
      refine own_getF X3 hx hZ hown (own_w hw 26 rfl) Via.refl e3 F_value (hb hby d10_24) ?_
      intro T4 X4 e4
      show own_Go p e below _ T4 (mkF m 27 #[.val (.ref a1), .val (.int hs)] [(.ref t)])
      refine own_callS (W := 0) X4 hx hZ (y := (⟨"java/lang/StringLatin1", "hashCode", "([B)I"⟩ : MethodName)) hown (own_w hw 70 rfl) (own_w hw 71 rfl) (own_w hw 11 rfl) (own_w hw 72 rfl) (by decide) (by rw [hml]; rfl) (argsL := [(.ref t)]) pd_10 rfl (rm12 l Z a0 hw [] t (own_by8 cc) h0 n0 Z0 V_t) (by decide) (by decide) (Nat.le_of_eq rfl) (by decide) (by decide) (rest := []) e4 rfl (hb hby d10_27) ?_
      intro v5 T5 L5 X5 hQ5
      rw [own_by8m hok] at hQ5
      obtain ⟨rfl, N5q, e5⟩ := hQ5
      have N5 := Fr.app N3 N5q
      show own_Go p e below _ T5 (mkF m 30 #[.val (.ref a1), .val (.int hs)] [(.int cc)])
      refine own_by (fun t_ k_ => XS.goto X5.here hx rfl (pc0 := 30) (pc' := 40) rfl (hb hby d10_30) (by decide) (by decide) k_) ?_
      show own_Go p e below _ T5 (mkF m 40 #[.val (.ref a1), .val (.int hs)] [(.int cc)])
      refine own_by (fun t_ k_ => XS.istoreN X5.here hx rfl (hb hby d10_40) rfl (l' := #[.val (.ref a1), .val (.int cc)]) rfl k_) ?_
      show own_Go p e below _ T5 (mkF m 41 #[.val (.ref a1), .val (.int cc)] [])
      refine own_by (fun t_ k_ => XS.iloadN X5.here hx rfl (hb hby d10_41) rfl k_) ?_
      show own_Go p e below _ T5 (mkF m 42 #[.val (.ref a1), .val (.int cc)] [(.int cc)])
      refine own_if X5 hx 53 (hb hby d10_42) (by decide) (by decide) (fun (hc42 : ¬ cc = (0 : Int32)) => ?_) (fun (hc42 : cc = (0 : Int32)) => ?_)
      · show own_Go p e below _ T5 (mkF m 53 #[.val (.ref a1), .val (.int cc)] [])
        refine own_by (fun t_ k_ => XS.aloadN X5.here hx rfl (hb hby d10_53) rfl rfl k_) ?_
        show own_Go p e below _ T5 (mkF m 54 #[.val (.ref a1), .val (.int cc)] [(.ref a1)])
        refine own_by (fun t_ k_ => XS.iloadN X5.here hx rfl (hb hby d10_54) rfl k_) ?_
        show own_Go p e below _ T5 (mkF m 55 #[.val (.ref a1), .val (.int cc)] [(.int cc), (.ref a1)])
        refine own_putF X5 hx hZ hown (own_w hw 61 rfl) Via.refl e5 F_hash E_a1 (Or.inl (own_w hw 62 rfl)) (own_w hw 14 rfl) (ty := .int) (by decide) rfl rfl (hb hby d10_55) ?_
        intro T6 h6 X6 e6 W6
        have F6 := Fld.same W6 F_hash
        have N6 := Fr.snoc X6 N5 g_a1
        have sz6 : n0 ≤ h6.size := Nat.le_trans Z0 (Keep.of_wr W6).1
        have K6 : Keep h0 h6 [a1] := K0.wr W6 (Or.inl (List.mem_cons_self ..))
        show own_Go p e below _ T6 (mkF m 58 #[.val (.ref a1), .val (.int cc)] [])
        refine own_by (fun t_ k_ => XS.iloadN X6.here hx rfl (hb hby d10_58) rfl k_) ?_
        show own_Go p e below _ T6 (mkF m 59 #[.val (.ref a1), .val (.int cc)] [(.int cc)])
        refine own_retI X6 hx hlk Bd.returns (hb hby d10_59) e6 (by decide) (by decide) ?_
        have E_a1_7 : Exa Z h6 a1 "java/lang/String" := (Exa.wr W6 E_a1)
        have F_coder_8 : Fld Z h6 a1 "java/lang/String" "coder" "B" (.int (0 : Int32)) := (Fld.other W6 F_coder (Or.inr (slot_ne (Or.inr (own_w hw 29 rfl)) (Or.inl (own_w hw 62 rfl)) (by decide) (t := .byte) (t' := .int) (by decide) (by decide))))
        have F_value_9 : Fld Z h6 a1 "java/lang/String" "value" "[B" (.ref t) := (Fld.other W6 F_value (Or.inr (slot_ne (Or.inr (own_w hw 27 rfl)) (Or.inl (own_w hw 62 rfl)) (by decide) (t := (.array .byte)) (t' := .int) (by decide) (by decide))))
        have F_hz_10 : Fld Z h6 a1 "java/lang/String" "hashIsZero" "Z" (.int hz) := (Fld.other W6 F_hz (Or.inr (slot_ne (Or.inl (own_w hw 64 rfl)) (Or.inl (own_w hw 62 rfl)) (by decide) (t := .boolean) (t' := .int) (by decide) (by decide))))
        have V_t_11 : own_Arr Z h6 t .byte [(.int (own_by8 cc))] := (own_Arr.other V_t W6 (Ne.symm hne))
        exact ⟨rfl, N6, K6, t, _, _, E_a1_7, F_coder_8, F_value_9, F6, F_hz_10, V_t_11, Or.inr rfl, h2, h3⟩
      · show own_Go p e below _ T5 (mkF m 45 #[.val (.ref a1), .val (.int cc)] [])
        refine own_by (fun t_ k_ => XS.aloadN X5.here hx rfl (hb hby d10_45) rfl rfl k_) ?_
        show own_Go p e below _ T5 (mkF m 46 #[.val (.ref a1), .val (.int cc)] [(.ref a1)])
        refine own_by (fun t_ k_ => XS.iconst X5.here hx rfl (hb hby d10_46) k_) ?_
        show own_Go p e below _ T5 (mkF m 47 #[.val (.ref a1), .val (.int cc)] [(.int (1 : Int32)), (.ref a1)])
        refine own_putF X5 hx hZ hown (own_w hw 63 rfl) Via.refl e5 F_hz E_a1 (Or.inl (own_w hw 64 rfl)) (own_w hw 14 rfl) (ty := .boolean) (by decide) rfl rfl (hb hby d10_47) ?_
        intro T12 h12 X12 e12 W12
        have F12 := Fld.same W12 F_hz
        have N12 := Fr.snoc X12 N5 g_a1
        have sz12 : n0 ≤ h12.size := Nat.le_trans Z0 (Keep.of_wr W12).1
        have K12 : Keep h0 h12 [a1] := K0.wr W12 (Or.inl (List.mem_cons_self ..))
        show own_Go p e below _ T12 (mkF m 50 #[.val (.ref a1), .val (.int cc)] [])
        refine own_by (fun t_ k_ => XS.goto X12.here hx rfl (pc0 := 50) (pc' := 58) rfl (hb hby d10_50) (by decide) (by decide) k_) ?_
        show own_Go p e below _ T12 (mkF m 58 #[.val (.ref a1), .val (.int cc)] [])
        refine own_by (fun t_ k_ => XS.iloadN X12.here hx rfl (hb hby d10_58) rfl k_) ?_
        show own_Go p e below _ T12 (mkF m 59 #[.val (.ref a1), .val (.int cc)] [(.int cc)])
        refine own_retI X12 hx hlk Bd.returns (hb hby d10_59) e12 (by decide) (by decide) ?_
        have E_a1_13 : Exa Z h12 a1 "java/lang/String" := (Exa.wr W12 E_a1)
        have F_coder_14 : Fld Z h12 a1 "java/lang/String" "coder" "B" (.int (0 : Int32)) := (Fld.other W12 F_coder (Or.inr (slot_ne (Or.inr (own_w hw 29 rfl)) (Or.inl (own_w hw 64 rfl)) (by decide) (t := .byte) (t' := .boolean) (by decide) (by decide))))
        have F_value_15 : Fld Z h12 a1 "java/lang/String" "value" "[B" (.ref t) := (Fld.other W12 F_value (Or.inr (slot_ne (Or.inr (own_w hw 27 rfl)) (Or.inl (own_w hw 64 rfl)) (by decide) (t := (.array .byte)) (t' := .boolean) (by decide) (by decide))))
        have F_hash_16 : Fld Z h12 a1 "java/lang/String" "hash" "I" (.int hs) := (Fld.other W12 F_hash (Or.inr (slot_ne (Or.inl (own_w hw 62 rfl)) (Or.inl (own_w hw 64 rfl)) (by decide) (t := .int) (t' := .boolean) (by decide) (by decide))))
        have V_t_17 : own_Arr Z h12 t .byte [(.int (own_by8 cc))] := (own_Arr.other V_t W12 (Ne.symm hne))
        exact ⟨rfl, N12, K12, t, _, _, E_a1_13, F_coder_14, F_value_15, F_hash_16, F12, V_t_17, h1, Or.inr hc42, Or.inr rfl⟩
theorem ef_14 (m : MethodId) (a1 : Addr) (a2 : Addr) : entryFrame m #[(.ref a1), (.ref a2)] 3 = mkF m 0 #[.val (.ref a1), .val (.ref a2), .unset] [] := by first | (simp [entryFrame, mkF, argsToLocals, Value.category]; done) | rfl
set_option maxRecDepth 65536 in
set_option maxHeartbeats 40000000 in
theorem rm14 (l : Launch) (Z : State) (a0 : Array Value) (hw : ∀ d ∈ tables_1, d.before a0 Z = true) (ws : List Jvm.Cond) (a1 : Addr) (a2 : Addr) (xs : List Int32) (ys : List Int32) (h0 : Heap) (n0 : Nat) (Z0 : n0 ≤ h0.size) (V_a1_0 : own_Arr Z h0 a1 .byte (xs.map Value.int)) (V_a2_0 : own_Arr Z h0 a2 .byte (ys.map Value.int)) :
    MetFree l (⟨"java/lang/StringLatin1", "equals", "([B[B)Z"⟩ : MethodName) (head1 (Jvm.Cond.code (⟨"java/lang/StringLatin1", "equals", "([B[B)Z"⟩ : MethodName) jdk_43_method_13_code 3 (some .boolean) :: ws) ({ frames := 0, cells := 0, slots := 0, locals := 0 } : Room)) (fun a U => a = #[(.ref a1), (.ref a2)] ∧ Z.Warmed39 U.vm ∧ U.heap = h0) (fun _ _ _ _ _ => True) (fun _ U o U' => ∃ v L, o = .returned v ∧ QLe xs ys h0 n0 v U'.heap L ∧ FrameEnd U o U' L ({ frames := 0, cells := 0, slots := 0, locals := 0 } : Room).cells ({ frames := 0, cells := 0, slots := 0, locals := 0 } : Room).slots) := by
  refine MetFree.of_bodySF (plainFor_of_name pn_3) hisR ?_
  intro p e s m args below meth c s₁ Bd hml0 hP hK
  obtain ⟨rfl, hZ, hh⟩ := hP
  have hx := Bd.exec
  have hby := Bd.bytes
  have hml : c.maxLocals = 3 := hml0
  have hown : s.vm.findClass "java/lang/StringLatin1" = some m.cls := findClass_of_methodNamed Bd.named
  have hnm := (name_of_methodNamed Bd.named Bd.method).1
  have hlk : meth.locks = false := BodyLoose.notSynchronized Bd
  have X0 : Stand p l e ({ frames := 0, cells := 0, slots := 0, locals := 0 } : Room) s m #[(.ref a1), (.ref a2)] below meth c s₁ [] 0 0 := Stand.of_body Bd
  have e0 : s₁.heap = h0 := by rw [← hh, Bd.state]; rfl
  have N0 := Fr.nil n0
  refine own_start (Q := QLe xs ys h0 n0) (ef_14 m a1 a2) ?_
  have hl1 : xs.length < 2 ^ 31 := by simpa using V_a1_0.len
  have hl2 : ys.length < 2 ^ 31 := by simpa using V_a2_0.len
  have el1 : (xs.map Value.int).length.toInt32.toInt = (xs.length : Int) := by rw [len_toInt (by simpa using hl1)]; simp
  have el2 : (ys.map Value.int).length.toInt32.toInt = (ys.length : Int) := by rw [len_toInt (by simpa using hl2)]; simp
  have lp : ∀ (D E : List Int32) (T : State) (i : Int32) (k : Nat), Stand p l e ({ frames := 0, cells := 0, slots := 0, locals := 0 } : Room) s m #[(.ref a1), (.ref a2)] below meth c T [] 0 0 → T.heap = h0 → i.toInt = (k : Int) → own_At (xs.map Value.int) k D → own_At (ys.map Value.int) k E → D.length = E.length → xs.length = k + D.length → (xs = ys ↔ D = E) → own_Go p e below (own_Fin s (QLe xs ys h0 n0) ({ frames := 0, cells := 0, slots := 0, locals := 0 } : Room).cells ({ frames := 0, cells := 0, slots := 0, locals := 0 } : Room).slots) T (mkF m 9 #[.val (.ref a1), .val (.ref a2), .val (.int i)] []) := by
    intro D
    induction D with
    | nil =>
      intro E T i k X eT hi hD hE hlen hxl hiff
      cases E with
      | cons f E => simp at hlen
      | nil =>
        show own_Go p e below _ T (mkF m 9 #[.val (.ref a1), .val (.ref a2), .val (.int i)] [])
        refine own_by (fun t_ k_ => XS.iloadN X.here hx rfl (hb hby d14_9) rfl k_) ?_
        show own_Go p e below _ T (mkF m 10 #[.val (.ref a1), .val (.ref a2), .val (.int i)] [(.int i)])
        refine own_by (fun t_ k_ => XS.aloadN X.here hx rfl (hb hby d14_10) rfl rfl k_) ?_
        show own_Go p e below _ T (mkF m 11 #[.val (.ref a1), .val (.ref a2), .val (.int i)] [(.ref a1), (.int i)])
        refine own_alen X hx hZ eT V_a1_0 (hb hby d14_11) ?_
        show own_Go p e below _ T (mkF m 12 #[.val (.ref a1), .val (.ref a2), .val (.int i)] [(.int ((xs.map Value.int)).length.toInt32), (.int i)])
        refine own_icmp X hx 32 (hb hby d14_12) (by decide) (by decide) (fun _ => ?_) (fun hc => absurd (show ¬ i < ((xs.map Value.int)).length.toInt32 from own_nlt hi el1 (by simp at hxl; omega)) (by first | exact hc | exact not_not_intro hc))
        show own_Go p e below _ T (mkF m 32 #[.val (.ref a1), .val (.ref a2), .val (.int i)] [])
        refine own_by (fun t_ k_ => XS.iconst X.here hx rfl (hb hby d14_32) k_) ?_
        show own_Go p e below _ T (mkF m 33 #[.val (.ref a1), .val (.ref a2), .val (.int i)] [(.int (1 : Int32))])
        refine own_retZ X hx hlk Bd.returns (by decide) (hb hby d14_33) eT (by decide) (by decide) ?_
        exact ⟨by rw [own_eqv, if_pos (hiff.mpr rfl)], N0, rfl⟩
    | cons d D ih =>
      intro E T i k X eT hi hD hE hlen hxl hiff
      cases E with
      | nil => simp at hlen
      | cons f E =>
        simp only [List.length_cons] at hxl hlen
        show own_Go p e below _ T (mkF m 9 #[.val (.ref a1), .val (.ref a2), .val (.int i)] [])
        refine own_by (fun t_ k_ => XS.iloadN X.here hx rfl (hb hby d14_9) rfl k_) ?_
        show own_Go p e below _ T (mkF m 10 #[.val (.ref a1), .val (.ref a2), .val (.int i)] [(.int i)])
        refine own_by (fun t_ k_ => XS.aloadN X.here hx rfl (hb hby d14_10) rfl rfl k_) ?_
        show own_Go p e below _ T (mkF m 11 #[.val (.ref a1), .val (.ref a2), .val (.int i)] [(.ref a1), (.int i)])
        refine own_alen X hx hZ eT V_a1_0 (hb hby d14_11) ?_
        show own_Go p e below _ T (mkF m 12 #[.val (.ref a1), .val (.ref a2), .val (.int i)] [(.int ((xs.map Value.int)).length.toInt32), (.int i)])
        refine own_icmp X hx 32 (hb hby d14_12) (by decide) (by decide) (fun hc => absurd (show i < ((xs.map Value.int)).length.toInt32 from own_ilt hi el1 (by omega)) (by first | exact hc | exact not_not_intro hc)) (fun _ => ?_)
        show own_Go p e below _ T (mkF m 15 #[.val (.ref a1), .val (.ref a2), .val (.int i)] [])
        refine own_by (fun t_ k_ => XS.aloadN X.here hx rfl (hb hby d14_15) rfl rfl k_) ?_
        show own_Go p e below _ T (mkF m 16 #[.val (.ref a1), .val (.ref a2), .val (.int i)] [(.ref a1)])
        refine own_by (fun t_ k_ => XS.iloadN X.here hx rfl (hb hby d14_16) rfl k_) ?_
        show own_Go p e below _ T (mkF m 17 #[.val (.ref a1), .val (.ref a2), .val (.int i)] [(.int i), (.ref a1)])
        refine own_baload X hx hZ eT V_a1_0 (v := (.int d)) k hi hD.1 (hb hby d14_17) ?_
        show own_Go p e below _ T (mkF m 18 #[.val (.ref a1), .val (.ref a2), .val (.int i)] [(.int d)])
        refine own_by (fun t_ k_ => XS.aloadN X.here hx rfl (hb hby d14_18) rfl rfl k_) ?_
        show own_Go p e below _ T (mkF m 19 #[.val (.ref a1), .val (.ref a2), .val (.int i)] [(.ref a2), (.int d)])
        refine own_by (fun t_ k_ => XS.iloadN X.here hx rfl (hb hby d14_19) rfl k_) ?_
        show own_Go p e below _ T (mkF m 20 #[.val (.ref a1), .val (.ref a2), .val (.int i)] [(.int i), (.ref a2), (.int d)])
        refine own_baload X hx hZ eT V_a2_0 (v := (.int f)) k hi hE.1 (hb hby d14_20) ?_
        show own_Go p e below _ T (mkF m 21 #[.val (.ref a1), .val (.ref a2), .val (.int i)] [(.int f), (.int d)])
        refine own_icmp X hx 26 (hb hby d14_21) (by decide) (by decide) (fun (hc21 : d = f) => ?_) (fun (hc21 : ¬ d = f) => ?_)
        · show own_Go p e below _ T (mkF m 26 #[.val (.ref a1), .val (.ref a2), .val (.int i)] [])
          refine own_by (fun t_ k_ => XS.iinc X.here hx rfl (hb hby d14_26) rfl (l' := #[.val (.ref a1), .val (.ref a2), .val (.int (i + (1 : Int32)))]) rfl k_) ?_
          show own_Go p e below _ T (mkF m 29 #[.val (.ref a1), .val (.ref a2), .val (.int (i + (1 : Int32)))] [])
          refine own_by (fun t_ k_ => XS.goto X.here hx rfl (pc0 := 29) (pc' := 9) rfl (hb hby d14_29) (by decide) (by decide) k_) ?_
          exact ih E _ _ (k + 1) X eT (own_inc hi (by omega)) hD.2 hE.2 (by omega) (by omega) (hiff.trans (by simp [hc21]))
        · show own_Go p e below _ T (mkF m 24 #[.val (.ref a1), .val (.ref a2), .val (.int i)] [])
          refine own_by (fun t_ k_ => XS.iconst X.here hx rfl (hb hby d14_24) k_) ?_
          show own_Go p e below _ T (mkF m 25 #[.val (.ref a1), .val (.ref a2), .val (.int i)] [(.int (0 : Int32))])
          refine own_retZ X hx hlk Bd.returns (by decide) (hb hby d14_25) eT (by decide) (by decide) ?_
          exact ⟨by rw [own_eqv, if_neg (fun q => hc21 (List.cons.inj (hiff.mp q)).1)], N0, rfl⟩
  show own_Go p e below _ s₁ (mkF m 0 #[.val (.ref a1), .val (.ref a2), .unset] [])
  refine own_by (fun t_ k_ => XS.aloadN X0.here hx rfl (hb hby d14_0) rfl rfl k_) ?_
  show own_Go p e below _ s₁ (mkF m 1 #[.val (.ref a1), .val (.ref a2), .unset] [(.ref a1)])
  refine own_alen X0 hx hZ e0 V_a1_0 (hb hby d14_1) ?_
  show own_Go p e below _ s₁ (mkF m 2 #[.val (.ref a1), .val (.ref a2), .unset] [(.int ((xs.map Value.int)).length.toInt32)])
  refine own_by (fun t_ k_ => XS.aloadN X0.here hx rfl (hb hby d14_2) rfl rfl k_) ?_
  show own_Go p e below _ s₁ (mkF m 3 #[.val (.ref a1), .val (.ref a2), .unset] [(.ref a2), (.int ((xs.map Value.int)).length.toInt32)])
  refine own_alen X0 hx hZ e0 V_a2_0 (hb hby d14_3) ?_
  show own_Go p e below _ s₁ (mkF m 4 #[.val (.ref a1), .val (.ref a2), .unset] [(.int ((ys.map Value.int)).length.toInt32), (.int ((xs.map Value.int)).length.toInt32)])
  refine own_icmp X0 hx 34 (hb hby d14_4) (by decide) (by decide) (fun (hc4 : ¬ ((xs.map Value.int)).length.toInt32 = ((ys.map Value.int)).length.toInt32) => ?_) (fun (hc4 : ((xs.map Value.int)).length.toInt32 = ((ys.map Value.int)).length.toInt32) => ?_)
  · show own_Go p e below _ s₁ (mkF m 34 #[.val (.ref a1), .val (.ref a2), .unset] [])
    refine own_by (fun t_ k_ => XS.iconst X0.here hx rfl (hb hby d14_34) k_) ?_
    show own_Go p e below _ s₁ (mkF m 35 #[.val (.ref a1), .val (.ref a2), .unset] [(.int (0 : Int32))])
    refine own_retZ X0 hx hlk Bd.returns (by decide) (hb hby d14_35) e0 (by decide) (by decide) ?_
    exact ⟨by rw [own_eqv, if_neg (fun q => hc4 (by rw [q]))], N0, rfl⟩
  · show own_Go p e below _ s₁ (mkF m 7 #[.val (.ref a1), .val (.ref a2), .unset] [])
    refine own_by (fun t_ k_ => XS.iconst X0.here hx rfl (hb hby d14_7) k_) ?_
    show own_Go p e below _ s₁ (mkF m 8 #[.val (.ref a1), .val (.ref a2), .unset] [(.int (0 : Int32))])
    refine own_by (fun t_ k_ => XS.istoreN X0.here hx rfl (hb hby d14_8) rfl (l' := #[.val (.ref a1), .val (.ref a2), .val (.int (0 : Int32))]) rfl k_) ?_
    have hee : xs.length = ys.length := by have := congrArg Int32.toInt hc4; rw [el1, el2] at this; omega
    exact lp xs ys _ 0 0 X0 e0 (by decide) (own_At_all xs []) (own_At_all ys []) hee (by simp) Iff.rfl
theorem ef_13 (m : MethodId) (a1 : Addr) (a2 : Addr) : entryFrame m #[(.ref a1), (.ref a2)] 3 = mkF m 0 #[.val (.ref a1), .val (.ref a2), .unset] [] := by first | (simp [entryFrame, mkF, argsToLocals, Value.category]; done) | rfl
set_option maxRecDepth 65536 in
set_option maxHeartbeats 40000000 in
theorem rm13 (l : Launch) (Z : State) (a0 : Array Value) (hw : ∀ d ∈ tables_1, d.before a0 Z = true) (ws : List Jvm.Cond) (a1 : Addr) (a2 : Addr) (b1 : Addr) (b2 : Addr) (xs : List Int32) (ys : List Int32) (cs : Int32) (h0 : Heap) (n0 : Nat) (Z0 : n0 ≤ h0.size) (E_a1 : Exa Z h0 a1 "java/lang/String") (C_a1 : Fld Z h0 a1 "java/lang/String" "coder" "B" (.int (0 : Int32))) (F_a1 : Fld Z h0 a1 "java/lang/String" "value" "[B" (.ref b1)) (V_b1_0 : own_Arr Z h0 b1 .byte (xs.map Value.int)) (E_a2 : Exa Z h0 a2 "java/lang/String") (C_a2 : Fld Z h0 a2 "java/lang/String" "coder" "B" (.int (0 : Int32))) (F_a2 : Fld Z h0 a2 "java/lang/String" "value" "[B" (.ref b2)) (V_b2_0 : own_Arr Z h0 b2 .byte (ys.map Value.int)) (S_cs : Sta Z h0 "java/lang/String" "COMPACT_STRINGS" "Z" (.int cs)) (hcs : ¬ cs = 0) :
    MetFree l (⟨"java/lang/String", "equals", "(Ljava/lang/Object;)Z"⟩ : MethodName) (head1 (Jvm.Cond.code (⟨"java/lang/String", "equals", "(Ljava/lang/Object;)Z"⟩ : MethodName) jdk_42_method_66_code 3 (some .boolean) :: ws) ({ frames := 1, cells := 0, slots := 0, locals := 14 } : Room)) (fun a U => a = #[(.ref a1), (.ref a2)] ∧ Z.Warmed39 U.vm ∧ U.heap = h0) (fun _ _ _ _ _ => True) (fun _ U o U' => ∃ v L, o = .returned v ∧ QLe xs ys h0 n0 v U'.heap L ∧ FrameEnd U o U' L ({ frames := 1, cells := 0, slots := 0, locals := 14 } : Room).cells ({ frames := 1, cells := 0, slots := 0, locals := 14 } : Room).slots) := by
  refine MetFree.of_bodySF (plainFor_of_name pn_2) hisR ?_
  intro p e s m args below meth c s₁ Bd hml0 hP hK
  obtain ⟨rfl, hZ, hh⟩ := hP
  have hx := Bd.exec
  have hby := Bd.bytes
  have hml : c.maxLocals = 3 := hml0
  have hown : s.vm.findClass "java/lang/String" = some m.cls := findClass_of_methodNamed Bd.named
  have hnm := (name_of_methodNamed Bd.named Bd.method).1
  have hlk : meth.locks = false := BodyLoose.notSynchronized Bd
  have X0 : Stand p l e ({ frames := 1, cells := 0, slots := 0, locals := 14 } : Room) s m #[(.ref a1), (.ref a2)] below meth c s₁ [] 0 0 := Stand.of_body Bd
  have e0 : s₁.heap = h0 := by rw [← hh, Bd.state]; rfl
  have N0 := Fr.nil n0
  refine own_start (Q := QLe xs ys h0 n0) (ef_13 m a1 a2) ?_
  show own_Go p e below _ s₁ (mkF m 0 #[.val (.ref a1), .val (.ref a2), .unset] [])
  refine own_by (fun t_ k_ => XS.aloadN X0.here hx rfl (hb hby d13_0) rfl rfl k_) ?_
  show own_Go p e below _ s₁ (mkF m 1 #[.val (.ref a1), .val (.ref a2), .unset] [(.ref a1)])
  refine own_by (fun t_ k_ => XS.aloadN X0.here hx rfl (hb hby d13_1) rfl rfl k_) ?_
  show own_Go p e below _ s₁ (mkF m 2 #[.val (.ref a1), .val (.ref a2), .unset] [(.ref a2), (.ref a1)])
  refine own_acmpNe X0 hx 7 (hb hby d13_2) (by decide) (by decide) (fun (hc2 : ¬ a1 = a2) => ?_) (fun (hc2 : a1 = a2) => ?_)
  · show own_Go p e below _ s₁ (mkF m 7 #[.val (.ref a1), .val (.ref a2), .unset] [])
    refine own_by (fun t_ k_ => XS.aloadN X0.here hx rfl (hb hby d13_7) rfl rfl k_) ?_
    show own_Go p e below _ s₁ (mkF m 8 #[.val (.ref a1), .val (.ref a2), .unset] [(.ref a2)])
    refine own_inst X0 hx hZ hown (own_w hw 13 rfl) e0 (Ins.self E_a2) (hb hby d13_8) ?_
    intro T1 X1 e1
    show own_Go p e below _ T1 (mkF m 11 #[.val (.ref a1), .val (.ref a2), .unset] [(.int (1 : Int32))])
    refine own_if X1 hx 54 (hb hby d13_11) (by decide) (by decide) (fun hc => absurd (show ¬ (1 : Int32) = (0 : Int32) from by decide) (by first | exact hc | exact not_not_intro hc)) (fun _ => ?_)
    show own_Go p e below _ T1 (mkF m 14 #[.val (.ref a1), .val (.ref a2), .unset] [])
    refine own_by (fun t_ k_ => XS.aloadN X1.here hx rfl (hb hby d13_14) rfl rfl k_) ?_
    show own_Go p e below _ T1 (mkF m 15 #[.val (.ref a1), .val (.ref a2), .unset] [(.ref a2)])
    refine own_cast X1 hx hZ hown (own_w hw 13 rfl) e1 (Ins.self E_a2) (hb hby d13_15) ?_
    intro T2 X2 e2
    show own_Go p e below _ T2 (mkF m 18 #[.val (.ref a1), .val (.ref a2), .unset] [(.ref a2)])
    refine own_by (fun t_ k_ => XS.astoreN X2.here hx rfl (hb hby d13_18) rfl rfl (l' := #[.val (.ref a1), .val (.ref a2), .val (.ref a2)]) rfl k_) ?_
    show own_Go p e below _ T2 (mkF m 19 #[.val (.ref a1), .val (.ref a2), .val (.ref a2)] [])
    refine own_getS X2 hx hZ hown (own_w hw 8 rfl) Via.refl e2 S_cs (hb hby d13_19) ?_
    intro T3 X3 e3
    show own_Go p e below _ T3 (mkF m 22 #[.val (.ref a1), .val (.ref a2), .val (.ref a2)] [(.int cs)])
    refine own_if X3 hx 36 (hb hby d13_22) (by decide) (by decide) (fun hc => absurd (show ¬ cs = (0 : Int32) from hcs) (by first | exact hc | exact not_not_intro hc)) (fun _ => ?_)
    show own_Go p e below _ T3 (mkF m 25 #[.val (.ref a1), .val (.ref a2), .val (.ref a2)] [])
    refine own_by (fun t_ k_ => XS.aloadN X3.here hx rfl (hb hby d13_25) rfl rfl k_) ?_
    show own_Go p e below _ T3 (mkF m 26 #[.val (.ref a1), .val (.ref a2), .val (.ref a2)] [(.ref a1)])
    refine own_getF X3 hx hZ hown (own_w hw 28 rfl) Via.refl e3 C_a1 (hb hby d13_26) ?_
    intro T4 X4 e4
    show own_Go p e below _ T4 (mkF m 29 #[.val (.ref a1), .val (.ref a2), .val (.ref a2)] [(.int (0 : Int32))])
    refine own_by (fun t_ k_ => XS.aloadN X4.here hx rfl (hb hby d13_29) rfl rfl k_) ?_
    show own_Go p e below _ T4 (mkF m 30 #[.val (.ref a1), .val (.ref a2), .val (.ref a2)] [(.ref a2), (.int (0 : Int32))])
    refine own_getF X4 hx hZ hown (own_w hw 28 rfl) Via.refl e4 C_a2 (hb hby d13_30) ?_
    intro T5 X5 e5
    show own_Go p e below _ T5 (mkF m 33 #[.val (.ref a1), .val (.ref a2), .val (.ref a2)] [(.int (0 : Int32)), (.int (0 : Int32))])
    refine own_icmp X5 hx 54 (hb hby d13_33) (by decide) (by decide) (fun hc => absurd (show (0 : Int32) = (0 : Int32) from by decide) (by first | exact hc | exact not_not_intro hc)) (fun _ => ?_)
    show own_Go p e below _ T5 (mkF m 36 #[.val (.ref a1), .val (.ref a2), .val (.ref a2)] [])
    refine own_by (fun t_ k_ => XS.aloadN X5.here hx rfl (hb hby d13_36) rfl rfl k_) ?_
    show own_Go p e below _ T5 (mkF m 37 #[.val (.ref a1), .val (.ref a2), .val (.ref a2)] [(.ref a1)])
    refine own_getF X5 hx hZ hown (own_w hw 26 rfl) Via.refl e5 F_a1 (hb hby d13_37) ?_
    intro T6 X6 e6
    show own_Go p e below _ T6 (mkF m 40 #[.val (.ref a1), .val (.ref a2), .val (.ref a2)] [(.ref b1)])
    refine own_by (fun t_ k_ => XS.aloadN X6.here hx rfl (hb hby d13_40) rfl rfl k_) ?_
    show own_Go p e below _ T6 (mkF m 41 #[.val (.ref a1), .val (.ref a2), .val (.ref a2)] [(.ref a2), (.ref b1)])
    refine own_getF X6 hx hZ hown (own_w hw 26 rfl) Via.refl e6 F_a2 (hb hby d13_41) ?_
    intro T7 X7 e7
    show own_Go p e below _ T7 (mkF m 44 #[.val (.ref a1), .val (.ref a2), .val (.ref a2)] [(.ref b2), (.ref b1)])
    refine own_callS (W := 0) X7 hx hZ (y := (⟨"java/lang/StringLatin1", "equals", "([B[B)Z"⟩ : MethodName)) hown (own_w hw 80 rfl) (own_w hw 81 rfl) (own_w hw 11 rfl) (own_w hw 82 rfl) (by decide) (by rw [hml]; rfl) (argsL := [(.ref b1), (.ref b2)]) pd_12 rfl (rm14 l Z a0 hw [] b1 b2 xs ys h0 n0 Z0 V_b1_0 V_b2_0) (by decide) (by decide) (Nat.le_of_eq rfl) (by decide) (by decide) (rest := []) e7 rfl (hb hby d13_44) ?_
    intro v8 T8 L8 X8 hQ8
    obtain ⟨rfl, N8q, e8⟩ := hQ8
    have N8 := Fr.app N0 N8q
    show own_Go p e below _ T8 (mkF m 47 #[.val (.ref a1), .val (.ref a2), .val (.ref a2)] [(.int (own_eqv xs ys))])
    refine own_if X8 hx 54 (hb hby d13_47) (by decide) (by decide) (fun (hc47 : (own_eqv xs ys) = (0 : Int32)) => ?_) (fun (hc47 : ¬ (own_eqv xs ys) = (0 : Int32)) => ?_)
    · show own_Go p e below _ T8 (mkF m 54 #[.val (.ref a1), .val (.ref a2), .val (.ref a2)] [])
      refine own_by (fun t_ k_ => XS.iconst X8.here hx rfl (hb hby d13_54) k_) ?_
      show own_Go p e below _ T8 (mkF m 55 #[.val (.ref a1), .val (.ref a2), .val (.ref a2)] [(.int (0 : Int32))])
      refine own_retZ X8 hx hlk Bd.returns (by decide) (hb hby d13_55) e8 (by decide) (by decide) ?_
      exact ⟨by unfold own_eqv at hc47 ⊢; split at hc47 <;> simp_all, N8, rfl⟩
    · show own_Go p e below _ T8 (mkF m 50 #[.val (.ref a1), .val (.ref a2), .val (.ref a2)] [])
      refine own_by (fun t_ k_ => XS.iconst X8.here hx rfl (hb hby d13_50) k_) ?_
      show own_Go p e below _ T8 (mkF m 51 #[.val (.ref a1), .val (.ref a2), .val (.ref a2)] [(.int (1 : Int32))])
      refine own_by (fun t_ k_ => XS.goto X8.here hx rfl (pc0 := 51) (pc' := 55) rfl (hb hby d13_51) (by decide) (by decide) k_) ?_
      show own_Go p e below _ T8 (mkF m 55 #[.val (.ref a1), .val (.ref a2), .val (.ref a2)] [(.int (1 : Int32))])
      refine own_retZ X8 hx hlk Bd.returns (by decide) (hb hby d13_55) e8 (by decide) (by decide) ?_
      exact ⟨by unfold own_eqv at hc47 ⊢; split at hc47 <;> simp_all, N8, rfl⟩
  · show own_Go p e below _ s₁ (mkF m 5 #[.val (.ref a1), .val (.ref a2), .unset] [])
    refine own_by (fun t_ k_ => XS.iconst X0.here hx rfl (hb hby d13_5) k_) ?_
    show own_Go p e below _ s₁ (mkF m 6 #[.val (.ref a1), .val (.ref a2), .unset] [(.int (1 : Int32))])
    refine own_retZ X0 hx hlk Bd.returns (by decide) (hb hby d13_6) e0 (by decide) (by decide) ?_
    subst hc2
    have q := own_Fld_uniq F_a1 F_a2
    cases q
    have q := own_mapint (own_Arr.uniq V_b1_0 V_b2_0)
    exact ⟨by rw [own_eqv, if_pos q], N0, rfl⟩
theorem ef_7 (m : MethodId) (a1 : Addr) : entryFrame m #[(.ref a1)] 1 = mkF m 0 #[.val (.ref a1)] [] := by first | (simp [entryFrame, mkF, argsToLocals, Value.category]; done) | rfl
set_option maxRecDepth 65536 in
set_option maxHeartbeats 40000000 in
theorem rm7 (l : Launch) (Z : State) (a0 : Array Value) (hw : ∀ d ∈ tables_1, d.before a0 Z = true) (ws : List Jvm.Cond) (a1 : Addr) (h0 : Heap) (n0 : Nat) (Z0 : n0 ≤ h0.size) (E_a1 : Exa Z h0 a1 "com/example/hedgewalk/hedgewalk/input/ChildCounts") (F_names : Fld Z h0 a1 "com/example/hedgewalk/hedgewalk/input/ChildCounts" "names" "[Ljava/lang/String;" .null) (F_counts : Fld Z h0 a1 "com/example/hedgewalk/hedgewalk/input/ChildCounts" "counts" "[J" .null) (F_used : Fld Z h0 a1 "com/example/hedgewalk/hedgewalk/input/ChildCounts" "used" "[I" .null) (F_size : Fld Z h0 a1 "com/example/hedgewalk/hedgewalk/input/ChildCounts" "size" "I" (.int (0 : Int32))) (g_a1 : n0 ≤ a1) :
    MetFree l (⟨"com/example/hedgewalk/hedgewalk/input/ChildCounts", "<init>", "()V"⟩ : MethodName) (head1 (Jvm.Cond.code (⟨"com/example/hedgewalk/hedgewalk/input/ChildCounts", "<init>", "()V"⟩ : MethodName) prog_87_method_1_code 1 none :: ws) ({ frames := 1, cells := 3, slots := 20, locals := 14 } : Room)) (fun a U => a = #[(.ref a1)] ∧ Z.Warmed39 U.vm ∧ U.heap = h0) (fun _ _ _ _ _ => True) (fun _ U o U' => ∃ v L, o = .returned v ∧ Q7 Z a1 h0 n0 v U'.heap L ∧ FrameEnd U o U' L ({ frames := 1, cells := 3, slots := 20, locals := 14 } : Room).cells ({ frames := 1, cells := 3, slots := 20, locals := 14 } : Room).slots) := by
  refine MetFree.of_bodySF (plainFor_of_name pn_7) hisR ?_
  intro p e s m args below meth c s₁ Bd hml0 hP hK
  obtain ⟨rfl, hZ, hh⟩ := hP
  have hx := Bd.exec
  have hby := Bd.bytes
  have hml : c.maxLocals = 1 := hml0
  have hown : s.vm.findClass "com/example/hedgewalk/hedgewalk/input/ChildCounts" = some m.cls := findClass_of_methodNamed Bd.named
  have hnm := (name_of_methodNamed Bd.named Bd.method).1
  have hlk : meth.locks = false := BodyLoose.notSynchronized Bd
  have X0 : Stand p l e ({ frames := 1, cells := 3, slots := 20, locals := 14 } : Room) s m #[(.ref a1)] below meth c s₁ [] 0 0 := Stand.of_body Bd
  have e0 : s₁.heap = h0 := by rw [← hh, Bd.state]; rfl
  have N0 := Fr.nil n0
  refine own_start (Q := Q7 Z a1 h0 n0) (ef_7 m a1) ?_
  have K0 := Keep.refl h0 [a1]
  show own_Go p e below _ s₁ (mkF m 0 #[.val (.ref a1)] [])
  refine own_by (fun t_ k_ => XS.aloadN X0.here hx rfl (hb hby d7_0) rfl rfl k_) ?_
  show own_Go p e below _ s₁ (mkF m 1 #[.val (.ref a1)] [(.ref a1)])
  refine own_initO X0 hx hZ hown (own_w hw 36 rfl) (own_w hw 24 rfl) (own_w hw 25 rfl) e0 (by rw [hml]; rfl) (hb hby d7_1) (by decide) (W := 0) (Nat.le_of_eq rfl) (by decide) ?_
  intro T1 X1 e1
  show own_Go p e below _ T1 (mkF m 4 #[.val (.ref a1)] [])
  refine own_by (fun t_ k_ => XS.aloadN X1.here hx rfl (hb hby d7_4) rfl rfl k_) ?_
  show own_Go p e below _ T1 (mkF m 5 #[.val (.ref a1)] [(.ref a1)])
  refine own_by (fun t_ k_ => XS.bipush X1.here hx rfl (hb hby d7_5) k_) ?_
  show own_Go p e below _ T1 (mkF m 7 #[.val (.ref a1)] [(.int (8 : Int32)), (.ref a1)])
  refine own_newRO X1 hx hZ hown (own_w hw 37 rfl) (own_w hw 38 rfl) e1 (hb hby d7_7) 8 8 (by decide) (by decide) (by decide) (by decide) (by decide) (ad := "[Ljava/lang/String;") (by decide) ?_
  intro T2 h2 b2 X2 e2 g2 E2 A2 Ex2 O2
  have lt_a1_b2 : a1 < b2 := Nat.lt_of_lt_of_le E_a1.lt (Nat.le_of_eq g2.symm)
  have g_b2 : n0 ≤ b2 := Nat.le_trans Z0 (Nat.le_of_eq g2.symm)
  have sz2 : n0 ≤ h2.size := Nat.le_trans Z0 E2.1
  have szk_b2 : h0.size ≤ b2 := Nat.le_trans K0.1 (Nat.le_of_eq g2.symm)
  have K2 : Keep h0 h2 [a1] := K0.ext E2
  have V2_0 : own_Arr Z h2 b2 (.object "java/lang/String") [.null, .null, .null, .null, .null, .null, .null, .null] := A2
  show own_Go p e below _ T2 (mkF m 10 #[.val (.ref a1)] [(.ref b2), (.ref a1)])
  have F_names_4 : Fld Z h2 a1 "com/example/hedgewalk/hedgewalk/input/ChildCounts" "names" "[Ljava/lang/String;" .null := (Fld.ext E2 F_names)
  have E_a1_5 : Exa Z h2 a1 "com/example/hedgewalk/hedgewalk/input/ChildCounts" := (Exa.ext E2 E_a1)
  refine own_putF X2 hx hZ hown (own_w hw 39 rfl) Via.refl e2 F_names_4 E_a1_5 (Or.inl (own_w hw 40 rfl)) (own_w hw 31 rfl) (ty := (.array (.object "java/lang/String"))) (by decide) rfl rfl (hb hby d7_10) ?_
  intro T3 h3 X3 e3 W3
  have F3 := Fld.same W3 F_names_4
  have N3 := Fr.snoc X3 N0 g_a1
  have sz3 : n0 ≤ h3.size := Nat.le_trans sz2 (Keep.of_wr W3).1
  have K3 : Keep h0 h3 [a1] := K2.wr W3 (Or.inl (List.mem_cons_self ..))
  show own_Go p e below _ T3 (mkF m 13 #[.val (.ref a1)] [])
  refine own_by (fun t_ k_ => XS.aloadN X3.here hx rfl (hb hby d7_13) rfl rfl k_) ?_
  show own_Go p e below _ T3 (mkF m 14 #[.val (.ref a1)] [(.ref a1)])
  refine own_by (fun t_ k_ => XS.bipush X3.here hx rfl (hb hby d7_14) k_) ?_
  show own_Go p e below _ T3 (mkF m 16 #[.val (.ref a1)] [(.int (8 : Int32)), (.ref a1)])
  refine own_newP X3 hx hZ (own_w hw 41 rfl) e3 (hb hby d7_16) 8 8 (by decide) (by decide) (by decide) (by decide) (by decide) ?_
  intro T6 h6 b6 X6 e6 g6 E6 A6
  have E_a1_7 : Exa Z h3 a1 "com/example/hedgewalk/hedgewalk/input/ChildCounts" := (Exa.wr W3 E_a1_5)
  have lt_a1_b6 : a1 < b6 := Nat.lt_of_lt_of_le E_a1_7.lt (Nat.le_of_eq g6.symm)
  have V2_8 : own_Arr Z h3 b2 (.object "java/lang/String") [.null, .null, .null, .null, .null, .null, .null, .null] := (own_Arr.other V2_0 W3 (Ne.symm (Nat.ne_of_lt lt_a1_b2)))
  have lt_b2_b6 : b2 < b6 := Nat.lt_of_lt_of_le V2_8.lt (Nat.le_of_eq g6.symm)
  have g_b6 : n0 ≤ b6 := Nat.le_trans sz3 (Nat.le_of_eq g6.symm)
  have sz6 : n0 ≤ h6.size := Nat.le_trans sz3 E6.1
  have szk_b6 : h0.size ≤ b6 := Nat.le_trans K3.1 (Nat.le_of_eq g6.symm)
  have K6 : Keep h0 h6 [a1] := K3.ext E6
  have V6_0 : own_Arr Z h6 b6 .long [(.long (0 : Int64)), (.long (0 : Int64)), (.long (0 : Int64)), (.long (0 : Int64)), (.long (0 : Int64)), (.long (0 : Int64)), (.long (0 : Int64)), (.long (0 : Int64))] := A6
  show own_Go p e below _ T6 (mkF m 18 #[.val (.ref a1)] [(.ref b6), (.ref a1)])
  have F_counts_10 : Fld Z h6 a1 "com/example/hedgewalk/hedgewalk/input/ChildCounts" "counts" "[J" .null := (Fld.ext E6 (Fld.other W3 (Fld.ext E2 F_counts) (Or.inr (slot_ne (Or.inl (own_w hw 43 rfl)) (Or.inl (own_w hw 40 rfl)) (by decide) (t := (.array .long)) (t' := (.array (.object "java/lang/String"))) (by decide) (by decide)))))
  have E_a1_11 : Exa Z h6 a1 "com/example/hedgewalk/hedgewalk/input/ChildCounts" := (Exa.ext E6 E_a1_7)
  refine own_putF X6 hx hZ hown (own_w hw 42 rfl) Via.refl e6 F_counts_10 E_a1_11 (Or.inl (own_w hw 43 rfl)) (own_w hw 31 rfl) (ty := (.array .long)) (by decide) rfl rfl (hb hby d7_18) ?_
  intro T9 h9 X9 e9 W9
  have F9 := Fld.same W9 F_counts_10
  have N9 := Fr.snoc X9 N3 g_a1
  have sz9 : n0 ≤ h9.size := Nat.le_trans sz6 (Keep.of_wr W9).1
  have K9 : Keep h0 h9 [a1] := K6.wr W9 (Or.inl (List.mem_cons_self ..))
  show own_Go p e below _ T9 (mkF m 21 #[.val (.ref a1)] [])
  refine own_by (fun t_ k_ => XS.aloadN X9.here hx rfl (hb hby d7_21) rfl rfl k_) ?_
  show own_Go p e below _ T9 (mkF m 22 #[.val (.ref a1)] [(.ref a1)])
  refine own_by (fun t_ k_ => XS.iconst X9.here hx rfl (hb hby d7_22) k_) ?_
  show own_Go p e below _ T9 (mkF m 23 #[.val (.ref a1)] [(.int (4 : Int32)), (.ref a1)])
  refine own_newP X9 hx hZ (own_w hw 44 rfl) e9 (hb hby d7_23) 4 4 (by decide) (by decide) (by decide) (by decide) (by decide) ?_
  intro T12 h12 b12 X12 e12 g12 E12 A12
  have E_a1_13 : Exa Z h9 a1 "com/example/hedgewalk/hedgewalk/input/ChildCounts" := (Exa.wr W9 E_a1_11)
  have lt_a1_b12 : a1 < b12 := Nat.lt_of_lt_of_le E_a1_13.lt (Nat.le_of_eq g12.symm)
  have V2_14 : own_Arr Z h9 b2 (.object "java/lang/String") [.null, .null, .null, .null, .null, .null, .null, .null] := (own_Arr.other (own_Arr.ext V2_8 E6) W9 (Ne.symm (Nat.ne_of_lt lt_a1_b2)))
  have lt_b2_b12 : b2 < b12 := Nat.lt_of_lt_of_le V2_14.lt (Nat.le_of_eq g12.symm)
  have V6_15 : own_Arr Z h9 b6 .long [(.long (0 : Int64)), (.long (0 : Int64)), (.long (0 : Int64)), (.long (0 : Int64)), (.long (0 : Int64)), (.long (0 : Int64)), (.long (0 : Int64)), (.long (0 : Int64))] := (own_Arr.other V6_0 W9 (Ne.symm (Nat.ne_of_lt lt_a1_b6)))
  have lt_b6_b12 : b6 < b12 := Nat.lt_of_lt_of_le V6_15.lt (Nat.le_of_eq g12.symm)
  have g_b12 : n0 ≤ b12 := Nat.le_trans sz9 (Nat.le_of_eq g12.symm)
  have sz12 : n0 ≤ h12.size := Nat.le_trans sz9 E12.1
  have szk_b12 : h0.size ≤ b12 := Nat.le_trans K9.1 (Nat.le_of_eq g12.symm)
  have K12 : Keep h0 h12 [a1] := K9.ext E12
  have V12_0 : own_Arr Z h12 b12 .int [(.int (0 : Int32)), (.int (0 : Int32)), (.int (0 : Int32)), (.int (0 : Int32))] := A12
  show own_Go p e below _ T12 (mkF m 25 #[.val (.ref a1)] [(.ref b12), (.ref a1)])
  have F_used_17 : Fld Z h12 a1 "com/example/hedgewalk/hedgewalk/input/ChildCounts" "used" "[I" .null := (Fld.ext E12 (Fld.other W9 (Fld.ext E6 (Fld.other W3 (Fld.ext E2 F_used) (Or.inr (slot_ne (Or.inl (own_w hw 46 rfl)) (Or.inl (own_w hw 40 rfl)) (by decide) (t := (.array .int)) (t' := (.array (.object "java/lang/String"))) (by decide) (by decide))))) (Or.inr (slot_ne (Or.inl (own_w hw 46 rfl)) (Or.inl (own_w hw 43 rfl)) (by decide) (t := (.array .int)) (t' := (.array .long)) (by decide) (by decide)))))
  have E_a1_18 : Exa Z h12 a1 "com/example/hedgewalk/hedgewalk/input/ChildCounts" := (Exa.ext E12 E_a1_13)
  refine own_putF X12 hx hZ hown (own_w hw 45 rfl) Via.refl e12 F_used_17 E_a1_18 (Or.inl (own_w hw 46 rfl)) (own_w hw 31 rfl) (ty := (.array .int)) (by decide) rfl rfl (hb hby d7_25) ?_
  intro T16 h16 X16 e16 W16
  have F16 := Fld.same W16 F_used_17
  have N16 := Fr.snoc X16 N9 g_a1
  have sz16 : n0 ≤ h16.size := Nat.le_trans sz12 (Keep.of_wr W16).1
  have K16 : Keep h0 h16 [a1] := K12.wr W16 (Or.inl (List.mem_cons_self ..))
  show own_Go p e below _ T16 (mkF m 28 #[.val (.ref a1)] [])
  refine own_retV X16 hx hlk Bd.returns (hb hby d7_28) e16 (by decide) (by decide) ?_
  have E_a1_19 : Exa Z h16 a1 "com/example/hedgewalk/hedgewalk/input/ChildCounts" := (Exa.wr W16 E_a1_18)
  have F3_20 : Fld Z h16 a1 "com/example/hedgewalk/hedgewalk/input/ChildCounts" "names" "[Ljava/lang/String;" (.ref b2) := (Fld.other W16 (Fld.ext E12 (Fld.other W9 (Fld.ext E6 F3) (Or.inr (slot_ne (Or.inl (own_w hw 40 rfl)) (Or.inl (own_w hw 43 rfl)) (by decide) (t := (.array (.object "java/lang/String"))) (t' := (.array .long)) (by decide) (by decide))))) (Or.inr (slot_ne (Or.inl (own_w hw 40 rfl)) (Or.inl (own_w hw 46 rfl)) (by decide) (t := (.array (.object "java/lang/String"))) (t' := (.array .int)) (by decide) (by decide))))
  have F9_21 : Fld Z h16 a1 "com/example/hedgewalk/hedgewalk/input/ChildCounts" "counts" "[J" (.ref b6) := (Fld.other W16 (Fld.ext E12 F9) (Or.inr (slot_ne (Or.inl (own_w hw 43 rfl)) (Or.inl (own_w hw 46 rfl)) (by decide) (t := (.array .long)) (t' := (.array .int)) (by decide) (by decide))))
  have F_size_22 : Fld Z h16 a1 "com/example/hedgewalk/hedgewalk/input/ChildCounts" "size" "I" (.int (0 : Int32)) := (Fld.other W16 (Fld.ext E12 (Fld.other W9 (Fld.ext E6 (Fld.other W3 (Fld.ext E2 F_size) (Or.inr (slot_ne (Or.inl (own_w hw 74 rfl)) (Or.inl (own_w hw 40 rfl)) (by decide) (t := .int) (t' := (.array (.object "java/lang/String"))) (by decide) (by decide))))) (Or.inr (slot_ne (Or.inl (own_w hw 74 rfl)) (Or.inl (own_w hw 43 rfl)) (by decide) (t := .int) (t' := (.array .long)) (by decide) (by decide))))) (Or.inr (slot_ne (Or.inl (own_w hw 74 rfl)) (Or.inl (own_w hw 46 rfl)) (by decide) (t := .int) (t' := (.array .int)) (by decide) (by decide))))
  have V2_23 : own_Arr Z h16 b2 (.object "java/lang/String") [.null, .null, .null, .null, .null, .null, .null, .null] := (own_Arr.other (own_Arr.ext V2_14 E12) W16 (Ne.symm (Nat.ne_of_lt lt_a1_b2)))
  have O2_24 : own_Ovr Z h16 b2 "java/lang/String" := (own_Ovr.wr (own_Ovr.ext (own_Ovr.wr (own_Ovr.ext (own_Ovr.wr O2 W3) E6) W9) E12) W16)
  have V6_25 : own_Arr Z h16 b6 .long [(.long (0 : Int64)), (.long (0 : Int64)), (.long (0 : Int64)), (.long (0 : Int64)), (.long (0 : Int64)), (.long (0 : Int64)), (.long (0 : Int64)), (.long (0 : Int64))] := (own_Arr.other (own_Arr.ext V6_15 E12) W16 (Ne.symm (Nat.ne_of_lt lt_a1_b6)))
  have V12_26 : own_Arr Z h16 b12 .int [(.int (0 : Int32)), (.int (0 : Int32)), (.int (0 : Int32)), (.int (0 : Int32))] := (own_Arr.other V12_0 W16 (Ne.symm (Nat.ne_of_lt lt_a1_b12)))
  exact ⟨b2, b6, b12, rfl, N16, K16, E_a1_19, F3_20, F9_21, F16, F_size_22, V2_23, O2_24, V6_25, V12_26, g_a1, g_b2, g_b6, g_b12⟩
theorem ef_9 (m : MethodId) (a1 : Addr) (a2 : Addr) : entryFrame m #[(.ref a1), (.ref a2)] 5 = mkF m 0 #[.val (.ref a1), .val (.ref a2), .unset, .unset, .unset] [] := by first | (simp [entryFrame, mkF, argsToLocals, Value.category]; done) | rfl
set_option maxRecDepth 65536 in
set_option maxHeartbeats 40000000 in
theorem rm9 (l : Launch) (Z : State) (a0 : Array Value) (hw : ∀ d ∈ tables_1, d.before a0 Z = true) (ws : List Jvm.Cond) (a1 : Addr) (a2 : Addr) (bn : Addr) (vs : List Value) (ks : List (Option Int32)) (S : List (Addr × Int32)) (cs : Int32) (cc : Int32) (h0 : Heap) (n0 : Nat) (Z0 : n0 ≤ h0.size) (S_cs : Sta Z h0 "java/lang/String" "COMPACT_STRINGS" "Z" (.int cs)) (hcs : ¬ cs = 0) (HS : own_Strs Z h0 n0 S) (hm : (a2, cc) ∈ S) (HR : own_Rel vs ks S) (hN : ks.length = 8 ∨ ks.length = 16) (hf : ∃ i : Nat, ks[i]? = some none) (E_a1 : Exa Z h0 a1 "com/example/hedgewalk/hedgewalk/input/ChildCounts") (F_names : Fld Z h0 a1 "com/example/hedgewalk/hedgewalk/input/ChildCounts" "names" "[Ljava/lang/String;" (.ref bn)) (V_bn : own_Arr Z h0 bn (.object "java/lang/String") vs) :
    MetFree l (⟨"com/example/hedgewalk/hedgewalk/input/ChildCounts", "slotOf", "(Ljava/lang/String;)I"⟩ : MethodName) (head1 (Jvm.Cond.code (⟨"com/example/hedgewalk/hedgewalk/input/ChildCounts", "slotOf", "(Ljava/lang/String;)I"⟩ : MethodName) prog_87_method_4_code 5 (some .int) :: ws) ({ frames := 2, cells := 0, slots := 0, locals := 30 } : Room)) (fun a U => a = #[(.ref a1), (.ref a2)] ∧ Z.Warmed39 U.vm ∧ U.heap = h0) (fun _ _ _ _ _ => True) (fun _ U o U' => ∃ v L, o = .returned v ∧ Q9 Z a2 cc ks S h0 n0 v U'.heap L ∧ FrameEnd U o U' L ({ frames := 2, cells := 0, slots := 0, locals := 30 } : Room).cells ({ frames := 2, cells := 0, slots := 0, locals := 30 } : Room).slots) := by
  refine MetFree.of_bodySF (plainFor_of_name pn_7) hisR ?_
  intro p e s m args below meth c s₁ Bd hml0 hP hK
  obtain ⟨rfl, hZ, hh⟩ := hP
  have hx := Bd.exec
  have hby := Bd.bytes
  have hml : c.maxLocals = 5 := hml0
  have hown : s.vm.findClass "com/example/hedgewalk/hedgewalk/input/ChildCounts" = some m.cls := findClass_of_methodNamed Bd.named
  have hnm := (name_of_methodNamed Bd.named Bd.method).1
  have hlk : meth.locks = false := BodyLoose.notSynchronized Bd
  have X0 : Stand p l e ({ frames := 2, cells := 0, slots := 0, locals := 30 } : Room) s m #[(.ref a1), (.ref a2)] below meth c s₁ [] 0 0 := Stand.of_body Bd
  have e0 : s₁.heap = h0 := by rw [← hh, Bd.state]; rfl
  have N0 := Fr.nil n0
  refine own_start (Q := Q9 Z a2 cc ks S h0 n0) (ef_9 m a1 a2) ?_
  have hl : vs.length = ks.length := HR.1
  obtain ⟨HN2, ok2, g_a2⟩ : own_Nm Z h0 a2 cc ∧ own_Ok cc ∧ n0 ≤ a2 := HS _ hm
  have E_a2 := HN2.exa
  have lp : ∀ (mk : Int32) (h1 : Heap), ((ks.length = 8 ∧ mk = 7) ∨ (ks.length = 16 ∧ mk = 15)) → Keep h0 h1 [a2] → n0 ≤ h1.size → Fld Z h1 a1 "com/example/hedgewalk/hedgewalk/input/ChildCounts" "names" "[Ljava/lang/String;" (.ref bn) → own_Arr Z h1 bn (.object "java/lang/String") vs → own_Strs Z h1 n0 S → Sta Z h1 "java/lang/String" "COMPACT_STRINGS" "Z" (.int cs) → ∀ (f : Nat) (T : State) (j : Int32) (J : Nat) (L : List Loc), Stand p l e ({ frames := 2, cells := 0, slots := 0, locals := 30 } : Room) s m #[(.ref a1), (.ref a2)] below meth c T L 0 0 → T.heap = h1 → Fr n0 L → j.toInt = (J : Int) → J < ks.length → (∃ d, d < f ∧ ks.getD ((J + d) % ks.length) none = none) → own_find f ks J cc = own_slot ks cc → own_Go p e below (own_Fin s (Q9 Z a2 cc ks S h0 n0) ({ frames := 2, cells := 0, slots := 0, locals := 30 } : Room).cells ({ frames := 2, cells := 0, slots := 0, locals := 30 } : Room).slots) T (mkF m 23 #[.val (.ref a1), .val (.ref a2), .val (.int mk), .val (.int cc), .val (.int j)] []) := by
    intro mk h1 hmk K1 sz1 F1 V1 HS1 C1 f
    induction f with
    | zero =>
      intro T j J L X eT N hj hJ hd hg
      obtain ⟨d, hd, -⟩ := hd
      exact absurd hd (Nat.not_lt_zero _)
    | succ f ih =>
      intro T j J L X eT N hj hJ hd hg
      have hJ2 : J < 32 := by omega
      rcases HR.2 J hJ with ⟨hv, hk⟩ | ⟨r, k, hv, hk, hmr⟩
      · show own_Go p e below _ T (mkF m 23 #[.val (.ref a1), .val (.ref a2), .val (.int mk), .val (.int cc), .val (.int j)] [])
        refine own_by (fun t_ k_ => XS.aloadN X.here hx rfl (hb hby d9_23) rfl rfl k_) ?_
        show own_Go p e below _ T (mkF m 24 #[.val (.ref a1), .val (.ref a2), .val (.int mk), .val (.int cc), .val (.int j)] [(.ref a1)])
        refine own_getF X hx hZ hown (own_w hw 39 rfl) Via.refl eT F1 (hb hby d9_24) ?_
        intro T1 X1 e1
        show own_Go p e below _ T1 (mkF m 27 #[.val (.ref a1), .val (.ref a2), .val (.int mk), .val (.int cc), .val (.int j)] [(.ref bn)])
        refine own_by (fun t_ k_ => XS.iload X1.here hx rfl (hb hby d9_27) rfl k_) ?_
        show own_Go p e below _ T1 (mkF m 29 #[.val (.ref a1), .val (.ref a2), .val (.int mk), .val (.int cc), .val (.int j)] [(.int j), (.ref bn)])
        refine own_aaload X1 hx hZ e1 V1 rfl (v := .null) J hj hv (hb hby d9_29) ?_
        show own_Go p e below _ T1 (mkF m 30 #[.val (.ref a1), .val (.ref a2), .val (.int mk), .val (.int cc), .val (.int j)] [.null])
        refine own_by (fun t_ k_ => XS.ifnullYes X1.here hx rfl (pc0 := 30) (pc' := 69) rfl (hb hby d9_30) rfl (by decide) (by decide) k_) ?_
        show own_Go p e below _ T1 (mkF m 69 #[.val (.ref a1), .val (.ref a2), .val (.int mk), .val (.int cc), .val (.int j)] [])
        refine own_by (fun t_ k_ => XS.iload X1.here hx rfl (hb hby d9_69) rfl k_) ?_
        show own_Go p e below _ T1 (mkF m 71 #[.val (.ref a1), .val (.ref a2), .val (.int mk), .val (.int cc), .val (.int j)] [(.int j)])
        refine own_retI X1 hx hlk Bd.returns (hb hby d9_71) e1 (by decide) (by decide) ?_
        exact ⟨by rw [← hg, own_find_n (own_gd hk), ← own_ofe hj], N, K1, HS1⟩
      · obtain ⟨n1, o1, g1⟩ : own_Nm Z h1 r k ∧ own_Ok k ∧ n0 ≤ r := HS1 _ hmr
        obtain ⟨n2, o2, g2⟩ : own_Nm Z h1 a2 cc ∧ own_Ok cc ∧ n0 ≤ a2 := HS1 _ hm
        show own_Go p e below _ T (mkF m 23 #[.val (.ref a1), .val (.ref a2), .val (.int mk), .val (.int cc), .val (.int j)] [])
        refine own_by (fun t_ k_ => XS.aloadN X.here hx rfl (hb hby d9_23) rfl rfl k_) ?_
        show own_Go p e below _ T (mkF m 24 #[.val (.ref a1), .val (.ref a2), .val (.int mk), .val (.int cc), .val (.int j)] [(.ref a1)])
        refine own_getF X hx hZ hown (own_w hw 39 rfl) Via.refl eT F1 (hb hby d9_24) ?_
        intro T1 X1 e1
        show own_Go p e below _ T1 (mkF m 27 #[.val (.ref a1), .val (.ref a2), .val (.int mk), .val (.int cc), .val (.int j)] [(.ref bn)])
        refine own_by (fun t_ k_ => XS.iload X1.here hx rfl (hb hby d9_27) rfl k_) ?_
        show own_Go p e below _ T1 (mkF m 29 #[.val (.ref a1), .val (.ref a2), .val (.int mk), .val (.int cc), .val (.int j)] [(.int j), (.ref bn)])
        refine own_aaload X1 hx hZ e1 V1 rfl (v := (.ref r)) J hj hv (hb hby d9_29) ?_
        show own_Go p e below _ T1 (mkF m 30 #[.val (.ref a1), .val (.ref a2), .val (.int mk), .val (.int cc), .val (.int j)] [(.ref r)])
        refine own_by (fun t_ k_ => XS.ifnullNo X1.here hx rfl (hb hby d9_30) rfl k_) ?_
        show own_Go p e below _ T1 (mkF m 33 #[.val (.ref a1), .val (.ref a2), .val (.int mk), .val (.int cc), .val (.int j)] [])
        refine own_by (fun t_ k_ => XS.aloadN X1.here hx rfl (hb hby d9_33) rfl rfl k_) ?_
        show own_Go p e below _ T1 (mkF m 34 #[.val (.ref a1), .val (.ref a2), .val (.int mk), .val (.int cc), .val (.int j)] [(.ref a1)])
        refine own_getF X1 hx hZ hown (own_w hw 39 rfl) Via.refl e1 F1 (hb hby d9_34) ?_
        intro T2 X2 e2
        show own_Go p e below _ T2 (mkF m 37 #[.val (.ref a1), .val (.ref a2), .val (.int mk), .val (.int cc), .val (.int j)] [(.ref bn)])
        refine own_by (fun t_ k_ => XS.iload X2.here hx rfl (hb hby d9_37) rfl k_) ?_
        show own_Go p e below _ T2 (mkF m 39 #[.val (.ref a1), .val (.ref a2), .val (.int mk), .val (.int cc), .val (.int j)] [(.int j), (.ref bn)])
        refine own_aaload X2 hx hZ e2 V1 rfl (v := (.ref r)) J hj hv (hb hby d9_39) ?_
        show own_Go p e below _ T2 (mkF m 40 #[.val (.ref a1), .val (.ref a2), .val (.int mk), .val (.int cc), .val (.int j)] [(.ref r)])
        refine own_by (fun t_ k_ => XS.aloadN X2.here hx rfl (hb hby d9_40) rfl rfl k_) ?_
        show own_Go p e below _ T2 (mkF m 41 #[.val (.ref a1), .val (.ref a2), .val (.int mk), .val (.int cc), .val (.int j)] [(.ref a2), (.ref r)])
        refine own_acmpEq X2 hx 69 (hb hby d9_41) (by decide) (by decide) (fun (hc41 : r = a2) => ?_) (fun (hc41 : ¬ r = a2) => ?_)
        · show own_Go p e below _ T2 (mkF m 69 #[.val (.ref a1), .val (.ref a2), .val (.int mk), .val (.int cc), .val (.int j)] [])
          refine own_by (fun t_ k_ => XS.iload X2.here hx rfl (hb hby d9_69) rfl k_) ?_
          show own_Go p e below _ T2 (mkF m 71 #[.val (.ref a1), .val (.ref a2), .val (.int mk), .val (.int cc), .val (.int j)] [(.int j)])
          refine own_retI X2 hx hlk Bd.returns (hb hby d9_71) e2 (by decide) (by decide) ?_
          have hkc : k = cc := own_Nm.uniq (hc41 ▸ n1) n2 o1 o2
          subst hkc
          exact ⟨by rw [← hg, own_find_y (own_gd hk), ← own_ofe hj], N, K1, HS1⟩
        · obtain ⟨t1, s1, z1, E_r, C_r, F_r, -, -, V_r, -⟩ := n1
          obtain ⟨t2, s2, z2, E_2, C_2, F_2, -, -, V_2, -⟩ := n2
          show own_Go p e below _ T2 (mkF m 44 #[.val (.ref a1), .val (.ref a2), .val (.int mk), .val (.int cc), .val (.int j)] [])
          refine own_by (fun t_ k_ => XS.aloadN X2.here hx rfl (hb hby d9_44) rfl rfl k_) ?_
          show own_Go p e below _ T2 (mkF m 45 #[.val (.ref a1), .val (.ref a2), .val (.int mk), .val (.int cc), .val (.int j)] [(.ref a1)])
          refine own_getF X2 hx hZ hown (own_w hw 39 rfl) Via.refl e2 F1 (hb hby d9_45) ?_
          intro T3 X3 e3
          show own_Go p e below _ T3 (mkF m 48 #[.val (.ref a1), .val (.ref a2), .val (.int mk), .val (.int cc), .val (.int j)] [(.ref bn)])
          refine own_by (fun t_ k_ => XS.iload X3.here hx rfl (hb hby d9_48) rfl k_) ?_
          show own_Go p e below _ T3 (mkF m 50 #[.val (.ref a1), .val (.ref a2), .val (.int mk), .val (.int cc), .val (.int j)] [(.int j), (.ref bn)])
          refine own_aaload X3 hx hZ e3 V1 rfl (v := (.ref r)) J hj hv (hb hby d9_50) ?_
          show own_Go p e below _ T3 (mkF m 51 #[.val (.ref a1), .val (.ref a2), .val (.int mk), .val (.int cc), .val (.int j)] [(.ref r)])
          refine own_by (fun t_ k_ => XS.aloadN X3.here hx rfl (hb hby d9_51) rfl rfl k_) ?_
          show own_Go p e below _ T3 (mkF m 52 #[.val (.ref a1), .val (.ref a2), .val (.int mk), .val (.int cc), .val (.int j)] [(.ref a2), (.ref r)])
          refine own_callV (W := 0) X3 hx hZ (y := (⟨"java/lang/String", "equals", "(Ljava/lang/Object;)Z"⟩ : MethodName)) (z := (⟨"java/lang/String", "equals", "(Ljava/lang/Object;)Z"⟩ : MethodName)) hown (own_w hw 75 rfl) (own_w hw 76 rfl) (notFace_of_selects (args := #[]) (mvT hZ (own_w hw 78 rfl))) (own_w hw 78 rfl) (own_w hw 77 rfl) (own_w hw 6 rfl) (own_w hw 79 rfl) (by decide) (by rw [hml]; rfl) (argsL := [(.ref a2)]) pd_11 rfl (a := r) e3 E_r (rm13 l Z a0 hw [] r a2 t1 t2 [own_by8 k] [own_by8 cc] cs h1 n0 sz1 E_r C_r F_r V_r E_2 C_2 F_2 V_2 C1 hcs) (by decide) (by decide) (Nat.le_of_eq rfl) (by decide) (by decide) (rest := []) rfl (hb hby d9_52) ?_
          intro v4 T4 L4 X4 hQ4
          obtain ⟨rfl, N4q, e4⟩ := hQ4
          have N4 := Fr.app N N4q
          show own_Go p e below _ T4 (mkF m 55 #[.val (.ref a1), .val (.ref a2), .val (.int mk), .val (.int cc), .val (.int j)] [(.int (own_eqv [own_by8 k] [own_by8 cc]))])
          refine own_if X4 hx 69 (hb hby d9_55) (by decide) (by decide) (fun (hc55 : ¬ (own_eqv [own_by8 k] [own_by8 cc]) = (0 : Int32)) => ?_) (fun (hc55 : (own_eqv [own_by8 k] [own_by8 cc]) = (0 : Int32)) => ?_)
          · show own_Go p e below _ T4 (mkF m 69 #[.val (.ref a1), .val (.ref a2), .val (.int mk), .val (.int cc), .val (.int j)] [])
            refine own_by (fun t_ k_ => XS.iload X4.here hx rfl (hb hby d9_69) rfl k_) ?_
            show own_Go p e below _ T4 (mkF m 71 #[.val (.ref a1), .val (.ref a2), .val (.int mk), .val (.int cc), .val (.int j)] [(.int j)])
            refine own_retI X4 hx hlk Bd.returns (hb hby d9_71) e4 (by decide) (by decide) ?_
            have hkc : k = cc := Classical.byContradiction fun q => hc55 (by rw [own_eq1 o1 o2, if_neg q])
            subst hkc
            exact ⟨by rw [← hg, own_find_y (own_gd hk), ← own_ofe hj], N4, K1, HS1⟩
          · show own_Go p e below _ T4 (mkF m 58 #[.val (.ref a1), .val (.ref a2), .val (.int mk), .val (.int cc), .val (.int j)] [])
            refine own_by (fun t_ k_ => XS.iload X4.here hx rfl (hb hby d9_58) rfl k_) ?_
            show own_Go p e below _ T4 (mkF m 60 #[.val (.ref a1), .val (.ref a2), .val (.int mk), .val (.int cc), .val (.int j)] [(.int j)])
            refine own_by (fun t_ k_ => XS.iconst X4.here hx rfl (hb hby d9_60) k_) ?_
            show own_Go p e below _ T4 (mkF m 61 #[.val (.ref a1), .val (.ref a2), .val (.int mk), .val (.int cc), .val (.int j)] [(.int (1 : Int32)), (.int j)])
            refine own_by (fun t_ k_ => XS.iadd X4.here hx rfl (hb hby d9_61) rfl k_) ?_
            show own_Go p e below _ T4 (mkF m 62 #[.val (.ref a1), .val (.ref a2), .val (.int mk), .val (.int cc), .val (.int j)] [(.int (j + (1 : Int32)))])
            refine own_by (fun t_ k_ => XS.iloadN X4.here hx rfl (hb hby d9_62) rfl k_) ?_
            show own_Go p e below _ T4 (mkF m 63 #[.val (.ref a1), .val (.ref a2), .val (.int mk), .val (.int cc), .val (.int j)] [(.int mk), (.int (j + (1 : Int32)))])
            refine own_by (fun t_ k_ => XS.iand X4.here hx rfl (hb hby d9_63) rfl k_) ?_
            show own_Go p e below _ T4 (mkF m 64 #[.val (.ref a1), .val (.ref a2), .val (.int mk), .val (.int cc), .val (.int j)] [(.int ((j + (1 : Int32)) &&& mk))])
            refine own_by (fun t_ k_ => XS.istore X4.here hx rfl (hb hby d9_64) rfl (l' := #[.val (.ref a1), .val (.ref a2), .val (.int mk), .val (.int cc), .val (.int ((j + (1 : Int32)) &&& mk))]) rfl k_) ?_
            show own_Go p e below _ T4 (mkF m 66 #[.val (.ref a1), .val (.ref a2), .val (.int mk), .val (.int cc), .val (.int ((j + (1 : Int32)) &&& mk))] [])
            refine own_by (fun t_ k_ => XS.goto X4.here hx rfl (pc0 := 66) (pc' := 23) rfl (hb hby d9_66) (by decide) (by decide) k_) ?_
            have hne : ¬ k = cc := fun q => by rw [own_eq1 o1 o2, if_pos q] at hc55; exact absurd hc55 (by decide)
            obtain ⟨d, hd1, hd2⟩ := hd
            have d0 : ¬ d = 0 := by intro z; subst z; rw [Nat.add_zero, Nat.mod_eq_of_lt hJ, own_gd hk] at hd2; cases hd2
            exact ih _ _ ((J + 1) % ks.length) _ X4 e4 N4 (own_next hmk hj hJ2) (Nat.mod_lt _ (by omega)) ⟨d - 1, by omega, by rw [own_near hJ d0]; exact hd2⟩ (by rw [← hg, own_find_s (own_gd hk) hne])
  have ne1 : a1 ≠ a2 := ne_exa E_a1 E_a2 (by decide)
  have ne2 : a1 ≠ bn := own_exa_arr E_a1 (own_w hw 31 rfl) V_bn
  have ne3 : a2 ≠ bn := own_exa_arr E_a2 (own_w hw 14 rfl) V_bn
  show own_Go p e below _ s₁ (mkF m 0 #[.val (.ref a1), .val (.ref a2), .unset, .unset, .unset] [])
  refine own_by (fun t_ k_ => XS.aloadN X0.here hx rfl (hb hby d9_0) rfl rfl k_) ?_
  show own_Go p e below _ s₁ (mkF m 1 #[.val (.ref a1), .val (.ref a2), .unset, .unset, .unset] [(.ref a1)])
  refine own_getF X0 hx hZ hown (own_w hw 39 rfl) Via.refl e0 F_names (hb hby d9_1) ?_
  intro T4 X4 e4
  show own_Go p e below _ T4 (mkF m 4 #[.val (.ref a1), .val (.ref a2), .unset, .unset, .unset] [(.ref bn)])
  refine own_alen X4 hx hZ e4 V_bn (hb hby d9_4) ?_
  show own_Go p e below _ T4 (mkF m 5 #[.val (.ref a1), .val (.ref a2), .unset, .unset, .unset] [(.int (vs).length.toInt32)])
  refine own_by (fun t_ k_ => XS.iconst X4.here hx rfl (hb hby d9_5) k_) ?_
  show own_Go p e below _ T4 (mkF m 6 #[.val (.ref a1), .val (.ref a2), .unset, .unset, .unset] [(.int (1 : Int32)), (.int (vs).length.toInt32)])
  refine own_by (fun t_ k_ => XS.isub X4.here hx rfl (hb hby d9_6) rfl k_) ?_
  show own_Go p e below _ T4 (mkF m 7 #[.val (.ref a1), .val (.ref a2), .unset, .unset, .unset] [(.int ((vs).length.toInt32 - (1 : Int32)))])
  refine own_by (fun t_ k_ => XS.istoreN X4.here hx rfl (hb hby d9_7) rfl (l' := #[.val (.ref a1), .val (.ref a2), .val (.int ((vs).length.toInt32 - (1 : Int32))), .unset, .unset]) rfl k_) ?_
  show own_Go p e below _ T4 (mkF m 8 #[.val (.ref a1), .val (.ref a2), .val (.int ((vs).length.toInt32 - (1 : Int32))), .unset, .unset] [])
  generalize h_mk : ((vs).length.toInt32 - (1 : Int32)) = mk
  show own_Go p e below _ T4 (mkF m 8 #[.val (.ref a1), .val (.ref a2), .val (.int mk), .unset, .unset] [])
  refine own_by (fun t_ k_ => XS.aloadN X4.here hx rfl (hb hby d9_8) rfl rfl k_) ?_
  show own_Go p e below _ T4 (mkF m 9 #[.val (.ref a1), .val (.ref a2), .val (.int mk), .unset, .unset] [(.ref a2)])
  refine own_callV (W := 0) X4 hx hZ (y := (⟨"java/lang/String", "hashCode", "()I"⟩ : MethodName)) (z := (⟨"java/lang/String", "hashCode", "()I"⟩ : MethodName)) hown (own_w hw 56 rfl) (own_w hw 57 rfl) (notFace_of_selects (args := #[]) (mvT hZ (own_w hw 59 rfl))) (own_w hw 59 rfl) (own_w hw 58 rfl) (own_w hw 6 rfl) (own_w hw 60 rfl) (by decide) (by rw [hml]; rfl) (argsL := []) pd_8 rfl (a := a2) e4 E_a2 (rm10 l Z a0 hw [] a2 cc cs h0 n0 Z0 S_cs hcs HN2 ok2 g_a2) (by decide) (by decide) (Nat.le_of_eq rfl) (by decide) (by decide) (rest := []) rfl (hb hby d9_9) ?_
  intro v5 T5 L5 X5 hQ5
  obtain ⟨rfl, N5q, K5q, G5⟩ := hQ5
  have N5 := Fr.app N0 N5q
  have sz5 : n0 ≤ T5.heap.size := Nat.le_trans Z0 K5q.1
  show own_Go p e below _ T5 (mkF m 12 #[.val (.ref a1), .val (.ref a2), .val (.int mk), .unset, .unset] [(.int cc)])
  refine own_by (fun t_ k_ => XS.istoreN X5.here hx rfl (hb hby d9_12) rfl (l' := #[.val (.ref a1), .val (.ref a2), .val (.int mk), .val (.int cc), .unset]) rfl k_) ?_
  show own_Go p e below _ T5 (mkF m 13 #[.val (.ref a1), .val (.ref a2), .val (.int mk), .val (.int cc), .unset] [])
  refine own_by (fun t_ k_ => XS.iloadN X5.here hx rfl (hb hby d9_13) rfl k_) ?_
  show own_Go p e below _ T5 (mkF m 14 #[.val (.ref a1), .val (.ref a2), .val (.int mk), .val (.int cc), .unset] [(.int cc)])
  refine own_by (fun t_ k_ => XS.iloadN X5.here hx rfl (hb hby d9_14) rfl k_) ?_
  show own_Go p e below _ T5 (mkF m 15 #[.val (.ref a1), .val (.ref a2), .val (.int mk), .val (.int cc), .unset] [(.int cc), (.int cc)])
  refine own_by (fun t_ k_ => XS.bipush X5.here hx rfl (hb hby d9_15) k_) ?_
  show own_Go p e below _ T5 (mkF m 17 #[.val (.ref a1), .val (.ref a2), .val (.int mk), .val (.int cc), .unset] [(.int (16 : Int32)), (.int cc), (.int cc)])
  refine own_by (fun t_ k_ => XT.iushr X5.here hx rfl (hb hby d9_17) rfl k_) ?_
  show own_Go p e below _ T5 (mkF m 18 #[.val (.ref a1), .val (.ref a2), .val (.int mk), .val (.int cc), .unset] [(.int (XT.ushr cc (16 : Int32))), (.int cc)])
  refine own_by (fun t_ k_ => XT.ixor X5.here hx rfl (hb hby d9_18) rfl k_) ?_
  show own_Go p e below _ T5 (mkF m 19 #[.val (.ref a1), .val (.ref a2), .val (.int mk), .val (.int cc), .unset] [(.int (cc ^^^ (XT.ushr cc (16 : Int32))))])
  refine own_by (fun t_ k_ => XS.iloadN X5.here hx rfl (hb hby d9_19) rfl k_) ?_
  show own_Go p e below _ T5 (mkF m 20 #[.val (.ref a1), .val (.ref a2), .val (.int mk), .val (.int cc), .unset] [(.int mk), (.int (cc ^^^ (XT.ushr cc (16 : Int32))))])
  refine own_by (fun t_ k_ => XS.iand X5.here hx rfl (hb hby d9_20) rfl k_) ?_
  show own_Go p e below _ T5 (mkF m 21 #[.val (.ref a1), .val (.ref a2), .val (.int mk), .val (.int cc), .unset] [(.int ((cc ^^^ (XT.ushr cc (16 : Int32))) &&& mk))])
  refine own_by (fun t_ k_ => XS.istore X5.here hx rfl (hb hby d9_21) rfl (l' := #[.val (.ref a1), .val (.ref a2), .val (.int mk), .val (.int cc), .val (.int ((cc ^^^ (XT.ushr cc (16 : Int32))) &&& mk))]) rfl k_) ?_
  have F_names_6 : Fld Z T5.heap a1 "com/example/hedgewalk/hedgewalk/input/ChildCounts" "names" "[Ljava/lang/String;" (.ref bn) := (Fld.keep F_names K5q (ninS ne1 nin0))
  have V_bn_7 : own_Arr Z T5.heap bn (.object "java/lang/String") vs := (own_Arr.keep V_bn K5q (ninS (Ne.symm ne3) nin0))
  have S_cs_8 : Sta Z T5.heap "java/lang/String" "COMPACT_STRINGS" "Z" (.int cs) := (own_Sta_keep S_cs K5q (nsS (Exa.nostat E_a2) ns0))
  have HSn : own_Strs Z T5.heap n0 S := own_Strs.keepS HS hm K5q G5 (own_w hw 14 rfl)
  have hmk := own_mk hl hN h_mk
  have hp : 0 < ks.length := by omega
  exact lp mk _ hmk K5q sz5 F_names_6 V_bn_7 HSn S_cs_8 ks.length _ _ (cc.toInt.toNat % ks.length) _ X5 rfl N5 (own_home hmk ok2) (Nat.mod_lt _ hp) (own_free hf (Nat.mod_lt _ hp)) rfl
theorem ef_17 (m : MethodId) (a1 : Addr) : entryFrame m #[(.ref a1)] 6 = mkF m 0 #[.val (.ref a1), .unset, .unset, .unset, .unset, .unset] [] := by first | (simp [entryFrame, mkF, argsToLocals, Value.category]; done) | rfl
set_option maxRecDepth 65536 in
set_option maxHeartbeats 40000000 in
theorem rm17 (l : Launch) (Z : State) (a0 : Array Value) (hw : ∀ d ∈ tables_1, d.before a0 Z = true) (ws : List Jvm.Cond) (a1 : Addr) (bn : Addr) (bc : Addr) (bu : Addr) (vs : List Value) (ks : List (Option Int32)) (ct : List Int64) (un : List Int32) (k : Nat) (S : List (Addr × Int32)) (cs : Int32) (h0 : Heap) (n0 : Nat) (Z0 : n0 ≤ h0.size) (S_cs : Sta Z h0 "java/lang/String" "COMPACT_STRINGS" "Z" (.int cs)) (hcs : ¬ cs = 0) (HS : own_Strs Z h0 n0 S) (HT : own_Tab Z h0 n0 a1 bn bc bu vs ks ct un k S) (h8 : ks.length = 8) :
    MetFree l (⟨"com/example/hedgewalk/hedgewalk/input/ChildCounts", "grow", "()V"⟩ : MethodName) (head1 (Jvm.Cond.code (⟨"com/example/hedgewalk/hedgewalk/input/ChildCounts", "grow", "()V"⟩ : MethodName) prog_87_method_5_code 6 none :: ws) ({ frames := 3, cells := 3, slots := 40, locals := 60 } : Room)) (fun a U => a = #[(.ref a1)] ∧ Z.Warmed39 U.vm ∧ U.heap = h0) (fun _ _ _ _ _ => True) (fun _ U o U' => ∃ v L, o = .returned v ∧ Q17 Z a1 cs k S n0 v U'.heap L ∧ FrameEnd U o U' L ({ frames := 3, cells := 3, slots := 40, locals := 60 } : Room).cells ({ frames := 3, cells := 3, slots := 40, locals := 60 } : Room).slots) := by
  refine MetFree.of_bodySF (plainFor_of_name pn_7) hisR ?_
  intro p e s m args below meth c s₁ Bd hml0 hP hK
  obtain ⟨rfl, hZ, hh⟩ := hP
  have hx := Bd.exec
  have hby := Bd.bytes
  have hml : c.maxLocals = 6 := hml0
  have hown : s.vm.findClass "com/example/hedgewalk/hedgewalk/input/ChildCounts" = some m.cls := findClass_of_methodNamed Bd.named
  have hnm := (name_of_methodNamed Bd.named Bd.method).1
  have hlk : meth.locks = false := BodyLoose.notSynchronized Bd
  have X0 : Stand p l e ({ frames := 3, cells := 3, slots := 40, locals := 60 } : Room) s m #[(.ref a1)] below meth c s₁ [] 0 0 := Stand.of_body Bd
  have e0 : s₁.heap = h0 := by rw [← hh, Bd.state]; rfl
  have N0 := Fr.nil n0
  refine own_start (Q := Q17 Z a1 cs k S n0) (ef_17 m a1) ?_
  obtain ⟨⟨E_a1, F_names, F_counts, F_used, F_size, V_bn, O_bn, V_bc, V_bu, g_a1, g_bn, g_bc, g_bu⟩, HR, HI, hct⟩ := HT
  have hN := HI.1
  have hu := HI.2.1
  have hku := HI.2.2.1
  have hl := HR.1
  have hl8 : vs.length = 8 := hl.trans h8
  have hki : (Int32.ofNat k).toInt = (k : Int) := own_ofi (by omega)
  have lp : ∀ (bN bC bU : Addr), bn ≠ bN → bc ≠ bC → bu ≠ bU → ∀ (f : Nat) (T : State) (h1 : Heap) (L : List Loc) (i : Int32) (I : Nat) (vs' : List Value) (ks' : List (Option Int32)) (ct' : List Int64) (un' : List Int32) (s5 : Slot), (s5 = .unset ∨ ∃ z : Int32, s5 = .val (.int z)) → Stand p l e ({ frames := 3, cells := 3, slots := 40, locals := 60 } : Room) s m #[(.ref a1)] below meth c T L 3 40 → T.heap = h1 → Fr n0 L → n0 ≤ h1.size → I + f = k → i.toInt = (I : Int) → Sta Z h1 "java/lang/String" "COMPACT_STRINGS" "Z" (.int cs) → own_Strs Z h1 n0 S → own_Arr Z h1 bn (.object "java/lang/String") vs → own_Arr Z h1 bc .long (ct.map Value.long) → own_Arr Z h1 bu .int (un.map Value.int) → own_T Z h1 n0 a1 bN bC bU vs' ct' un' (Int32.ofNat k) → own_Rel vs' ks' S → own_Inv ks' un' I → ct'.length = ks'.length → ks'.length = 16 → own_Go p e below (own_Fin s (Q17 Z a1 cs k S n0) ({ frames := 3, cells := 3, slots := 40, locals := 60 } : Room).cells ({ frames := 3, cells := 3, slots := 40, locals := 60 } : Room).slots) T (mkF m 53 #[.val (.ref a1), .val (.ref bn), .val (.ref bc), .val (.ref bu), .val (.int i), s5] []) := by
    intro bN bC bU nn nc nu f
    induction f with
    | zero =>
      intro T h1 L i I vs' ks' ct' un' s5 hs5 X eT N sz1 hI hi C1 M1 Vn1 Vc1 Vu1 HT1 HR' HI' hct' h16
      obtain ⟨E_a11, F_names1, F_counts1, F_used1, F_size1, V_bn1, O_bn1, V_bc1, V_bu1, g_a11, g_bN, g_bC, g_bU⟩ := HT1
      have hIk : I = k := by omega
      show own_Go p e below _ T (mkF m 53 #[.val (.ref a1), .val (.ref bn), .val (.ref bc), .val (.ref bu), .val (.int i), s5] [])
      refine own_by (fun t_ k_ => XS.iload X.here hx rfl (hb hby d17_53) rfl k_) ?_
      show own_Go p e below _ T (mkF m 55 #[.val (.ref a1), .val (.ref bn), .val (.ref bc), .val (.ref bu), .val (.int i), s5] [(.int i)])
      refine own_by (fun t_ k_ => XS.aloadN X.here hx rfl (hb hby d17_55) rfl rfl k_) ?_
      show own_Go p e below _ T (mkF m 56 #[.val (.ref a1), .val (.ref bn), .val (.ref bc), .val (.ref bu), .val (.int i), s5] [(.ref a1), (.int i)])
      refine own_getF X hx hZ hown (own_w hw 73 rfl) Via.refl eT F_size1 (hb hby d17_56) ?_
      intro T1 X1 e1
      show own_Go p e below _ T1 (mkF m 59 #[.val (.ref a1), .val (.ref bn), .val (.ref bc), .val (.ref bu), .val (.int i), s5] [(.int (Int32.ofNat k)), (.int i)])
      refine own_icmp X1 hx 115 (hb hby d17_59) (by decide) (by decide) (fun _ => ?_) (fun hc => absurd (show ¬ i < (Int32.ofNat k) from own_nlt hi hki (by omega)) (by first | exact hc | exact not_not_intro hc))
      show own_Go p e below _ T1 (mkF m 115 #[.val (.ref a1), .val (.ref bn), .val (.ref bc), .val (.ref bu), .val (.int i), s5] [])
      refine own_retV X1 hx hlk Bd.returns (hb hby d17_115) e1 (by decide) (by decide) ?_
      exact ⟨bN, bC, bU, vs', ks', ct', un', rfl, N, C1, M1, ⟨⟨E_a11, F_names1, F_counts1, F_used1, F_size1, V_bn1, O_bn1, V_bc1, V_bu1, g_a11, g_bN, g_bC, g_bU⟩, HR', hIk ▸ HI', hct'⟩, h16⟩
    | succ f ih =>
      intro T h1 L i I vs' ks' ct' un' s5 hs5 X eT N sz1 hI hi C1 M1 Vn1 Vc1 Vu1 HT1 HR' HI' hct' h16
      obtain ⟨E_a11, F_names1, F_counts1, F_used1, F_size1, V_bn1, O_bn1, V_bc1, V_bu1, g_a11, g_bN, g_bC, g_bU⟩ := HT1
      have hu' := HI'.2.1
      have hl' := HR'.1
      show own_Go p e below _ T (mkF m 53 #[.val (.ref a1), .val (.ref bn), .val (.ref bc), .val (.ref bu), .val (.int i), s5] [])
      refine own_by (fun t_ k_ => XS.iload X.here hx rfl (hb hby d17_53) rfl k_) ?_
      show own_Go p e below _ T (mkF m 55 #[.val (.ref a1), .val (.ref bn), .val (.ref bc), .val (.ref bu), .val (.int i), s5] [(.int i)])
      refine own_by (fun t_ k_ => XS.aloadN X.here hx rfl (hb hby d17_55) rfl rfl k_) ?_
      show own_Go p e below _ T (mkF m 56 #[.val (.ref a1), .val (.ref bn), .val (.ref bc), .val (.ref bu), .val (.int i), s5] [(.ref a1), (.int i)])
      refine own_getF X hx hZ hown (own_w hw 73 rfl) Via.refl eT F_size1 (hb hby d17_56) ?_
      intro T1 X1 e1
      show own_Go p e below _ T1 (mkF m 59 #[.val (.ref a1), .val (.ref bn), .val (.ref bc), .val (.ref bu), .val (.int i), s5] [(.int (Int32.ofNat k)), (.int i)])
      refine own_icmp X1 hx 115 (hb hby d17_59) (by decide) (by decide) (fun hc => absurd (show i < (Int32.ofNat k) from own_ilt hi hki (by omega)) (by first | exact hc | exact not_not_intro hc)) (fun _ => ?_)
      obtain ⟨q, d, hq1, hk⟩ := HI.2.2.2.2.2 I (by omega)
      obtain ⟨r, hv, hmr⟩ := HR.atS hk
      have hq : q < ks.length := (List.getElem?_eq_some_iff.mp hk).1
      have hqi : (Int32.ofNat q).toInt = (q : Int) := own_ofi (by omega)
      obtain ⟨HNr, okr, g_r⟩ : own_Nm Z h1 r d ∧ own_Ok d ∧ n0 ≤ r := M1 _ hmr
      have E_r := HNr.exa
      have ne2 : r ≠ a1 := ne_exa E_r E_a11 (by decide)
      have ne3 : r ≠ bN := own_exa_arr E_r (own_w hw 14 rfl) V_bn1
      have ne4 : r ≠ bC := own_exa_arr E_r (own_w hw 14 rfl) V_bc1
      have ne5 : r ≠ bU := own_exa_arr E_r (own_w hw 14 rfl) V_bu1
      have ne6 : r ≠ bn := own_exa_arr E_r (own_w hw 14 rfl) Vn1
      have ne7 : r ≠ bc := own_exa_arr E_r (own_w hw 14 rfl) Vc1
      have ne8 : r ≠ bu := own_exa_arr E_r (own_w hw 14 rfl) Vu1
      have ne9 : a1 ≠ bN := own_exa_arr E_a11 (own_w hw 31 rfl) V_bn1
      have ne10 : a1 ≠ bC := own_exa_arr E_a11 (own_w hw 31 rfl) V_bc1
      have ne11 : a1 ≠ bU := own_exa_arr E_a11 (own_w hw 31 rfl) V_bu1
      have ne12 : a1 ≠ bn := own_exa_arr E_a11 (own_w hw 31 rfl) Vn1
      have ne13 : a1 ≠ bc := own_exa_arr E_a11 (own_w hw 31 rfl) Vc1
      have ne14 : a1 ≠ bu := own_exa_arr E_a11 (own_w hw 31 rfl) Vu1
      have ne15 : bN ≠ bC := own_Arr.ne V_bn1 V_bc1 (by decide)
      have ne16 : bN ≠ bU := own_Arr.ne V_bn1 V_bu1 (by decide)
      have ne17 : bN ≠ bc := own_Arr.ne V_bn1 Vc1 (by decide)
      have ne18 : bN ≠ bu := own_Arr.ne V_bn1 Vu1 (by decide)
      have ne19 : bC ≠ bU := own_Arr.ne V_bc1 V_bu1 (by decide)
      have ne20 : bC ≠ bn := own_Arr.ne V_bc1 Vn1 (by decide)
      have ne21 : bC ≠ bu := own_Arr.ne V_bc1 Vu1 (by decide)
      have ne22 : bU ≠ bn := own_Arr.ne V_bu1 Vn1 (by decide)
      have ne23 : bU ≠ bc := own_Arr.ne V_bu1 Vc1 (by decide)
      have ne24 : bn ≠ bc := own_Arr.ne Vn1 Vc1 (by decide)
      have ne25 : bn ≠ bu := own_Arr.ne Vn1 Vu1 (by decide)
      have ne26 : bc ≠ bu := own_Arr.ne Vc1 Vu1 (by decide)
      show own_Go p e below _ T1 (mkF m 62 #[.val (.ref a1), .val (.ref bn), .val (.ref bc), .val (.ref bu), .val (.int i), s5] [])
      refine own_by (fun t_ k_ => XS.aloadN X1.here hx rfl (hb hby d17_62) rfl rfl k_) ?_
      show own_Go p e below _ T1 (mkF m 63 #[.val (.ref a1), .val (.ref bn), .val (.ref bc), .val (.ref bu), .val (.int i), s5] [(.ref a1)])
      refine own_by (fun t_ k_ => XS.aloadN X1.here hx rfl (hb hby d17_63) rfl rfl k_) ?_
      show own_Go p e below _ T1 (mkF m 64 #[.val (.ref a1), .val (.ref bn), .val (.ref bc), .val (.ref bu), .val (.int i), s5] [(.ref bn), (.ref a1)])
      refine own_by (fun t_ k_ => XS.aloadN X1.here hx rfl (hb hby d17_64) rfl rfl k_) ?_
      show own_Go p e below _ T1 (mkF m 65 #[.val (.ref a1), .val (.ref bn), .val (.ref bc), .val (.ref bu), .val (.int i), s5] [(.ref bu), (.ref bn), (.ref a1)])
      refine own_by (fun t_ k_ => XS.iload X1.here hx rfl (hb hby d17_65) rfl k_) ?_
      show own_Go p e below _ T1 (mkF m 67 #[.val (.ref a1), .val (.ref bn), .val (.ref bc), .val (.ref bu), .val (.int i), s5] [(.int i), (.ref bu), (.ref bn), (.ref a1)])
      refine own_iaload X1 hx hZ e1 Vu1 (v := (.int (Int32.ofNat q))) I hi (own_unv hq1) (hb hby d17_67) ?_
      show own_Go p e below _ T1 (mkF m 68 #[.val (.ref a1), .val (.ref bn), .val (.ref bc), .val (.ref bu), .val (.int i), s5] [(.int (Int32.ofNat q)), (.ref bn), (.ref a1)])
      refine own_aaload X1 hx hZ e1 Vn1 rfl (v := (.ref r)) q hqi hv (hb hby d17_68) ?_
      show own_Go p e below _ T1 (mkF m 69 #[.val (.ref a1), .val (.ref bn), .val (.ref bc), .val (.ref bu), .val (.int i), s5] [(.ref r), (.ref a1)])
      refine own_callP (W := 0) X1 hx hZ (y := (⟨"com/example/hedgewalk/hedgewalk/input/ChildCounts", "slotOf", "(Ljava/lang/String;)I"⟩ : MethodName)) hown (own_w hw 52 rfl) (own_w hw 53 rfl) (own_w hw 31 rfl) (own_w hw 54 rfl) (own_w hw 32 rfl) (own_w hw 55 rfl) (by decide) (by rw [hml]; rfl) (argsL := [(.ref r)]) pd_7 rfl (a := a1) e1 E_a11 (rm9 l Z a0 hw [] a1 r bN vs' ks' S cs d h1 n0 sz1 C1 hcs M1 hmr HR' HI'.1 HI'.free E_a11 F_names1 V_bn1) (by decide) (by decide) (Nat.le_of_eq rfl) (by decide) (by decide) (rest := []) rfl (hb hby d17_69) ?_
      intro v27 T27 L27 X27 hQ27
      obtain ⟨rfl, N27q, K27q, M27⟩ := hQ27
      have N27 := Fr.app N N27q
      have sz27 : n0 ≤ T27.heap.size := Nat.le_trans sz1 K27q.1
      show own_Go p e below _ T27 (mkF m 72 #[.val (.ref a1), .val (.ref bn), .val (.ref bc), .val (.ref bu), .val (.int i), s5] [(.int (Int32.ofNat (own_slot ks' d)))])
      refine own_by (fun t_ k_ => XS.istore X27.here hx rfl (hb hby d17_72) rfl (l' := #[.val (.ref a1), .val (.ref bn), .val (.ref bc), .val (.ref bu), .val (.int i), .val (.int (Int32.ofNat (own_slot ks' d)))]) (by rcases hs5 with rfl | ⟨z5, rfl⟩ <;> rfl) k_) ?_
      obtain ⟨hJ, hJ'⟩ := own_slot_spec HI'.free d
      have hJi : (Int32.ofNat (own_slot ks' d)).toInt = ((own_slot ks' d : Nat) : Int) := own_ofi (by omega)
      show own_Go p e below _ T27 (mkF m 74 #[.val (.ref a1), .val (.ref bn), .val (.ref bc), .val (.ref bu), .val (.int i), .val (.int (Int32.ofNat (own_slot ks' d)))] [])
      refine own_by (fun t_ k_ => XS.aloadN X27.here hx rfl (hb hby d17_74) rfl rfl k_) ?_
      show own_Go p e below _ T27 (mkF m 75 #[.val (.ref a1), .val (.ref bn), .val (.ref bc), .val (.ref bu), .val (.int i), .val (.int (Int32.ofNat (own_slot ks' d)))] [(.ref a1)])
      have F_names1_29 : Fld Z T27.heap a1 "com/example/hedgewalk/hedgewalk/input/ChildCounts" "names" "[Ljava/lang/String;" (.ref bN) := (Fld.keep F_names1 K27q (ninS (Ne.symm ne2) nin0))
      refine own_getF X27 hx hZ hown (own_w hw 39 rfl) Via.refl rfl F_names1_29 (hb hby d17_75) ?_
      intro T28 X28 e28
      show own_Go p e below _ T28 (mkF m 78 #[.val (.ref a1), .val (.ref bn), .val (.ref bc), .val (.ref bu), .val (.int i), .val (.int (Int32.ofNat (own_slot ks' d)))] [(.ref bN)])
      refine own_by (fun t_ k_ => XS.iload X28.here hx rfl (hb hby d17_78) rfl k_) ?_
      show own_Go p e below _ T28 (mkF m 80 #[.val (.ref a1), .val (.ref bn), .val (.ref bc), .val (.ref bu), .val (.int i), .val (.int (Int32.ofNat (own_slot ks' d)))] [(.int (Int32.ofNat (own_slot ks' d))), (.ref bN)])
      refine own_by (fun t_ k_ => XS.aloadN X28.here hx rfl (hb hby d17_80) rfl rfl k_) ?_
      show own_Go p e below _ T28 (mkF m 81 #[.val (.ref a1), .val (.ref bn), .val (.ref bc), .val (.ref bu), .val (.int i), .val (.int (Int32.ofNat (own_slot ks' d)))] [(.ref bn), (.int (Int32.ofNat (own_slot ks' d))), (.ref bN)])
      refine own_by (fun t_ k_ => XS.aloadN X28.here hx rfl (hb hby d17_81) rfl rfl k_) ?_
      show own_Go p e below _ T28 (mkF m 82 #[.val (.ref a1), .val (.ref bn), .val (.ref bc), .val (.ref bu), .val (.int i), .val (.int (Int32.ofNat (own_slot ks' d)))] [(.ref bu), (.ref bn), (.int (Int32.ofNat (own_slot ks' d))), (.ref bN)])
      refine own_by (fun t_ k_ => XS.iload X28.here hx rfl (hb hby d17_82) rfl k_) ?_
      show own_Go p e below _ T28 (mkF m 84 #[.val (.ref a1), .val (.ref bn), .val (.ref bc), .val (.ref bu), .val (.int i), .val (.int (Int32.ofNat (own_slot ks' d)))] [(.int i), (.ref bu), (.ref bn), (.int (Int32.ofNat (own_slot ks' d))), (.ref bN)])
      have Vu1_30 : own_Arr Z T27.heap bu .int (un.map Value.int) := (own_Arr.keep Vu1 K27q (ninS (Ne.symm ne8) nin0))
      refine own_iaload X28 hx hZ e28 Vu1_30 (v := (.int (Int32.ofNat q))) I hi (own_unv hq1) (hb hby d17_84) ?_
      show own_Go p e below _ T28 (mkF m 85 #[.val (.ref a1), .val (.ref bn), .val (.ref bc), .val (.ref bu), .val (.int i), .val (.int (Int32.ofNat (own_slot ks' d)))] [(.int (Int32.ofNat q)), (.ref bn), (.int (Int32.ofNat (own_slot ks' d))), (.ref bN)])
      have Vn1_31 : own_Arr Z T27.heap bn (.object "java/lang/String") vs := (own_Arr.keep Vn1 K27q (ninS (Ne.symm ne6) nin0))
      refine own_aaload X28 hx hZ e28 Vn1_31 rfl (v := (.ref r)) q hqi hv (hb hby d17_85) ?_
      show own_Go p e below _ T28 (mkF m 86 #[.val (.ref a1), .val (.ref bn), .val (.ref bc), .val (.ref bu), .val (.int i), .val (.int (Int32.ofNat (own_slot ks' d)))] [(.ref r), (.int (Int32.ofNat (own_slot ks' d))), (.ref bN)])
      have V_bn1_33 : own_Arr Z T27.heap bN (.object "java/lang/String") vs' := (own_Arr.keep V_bn1 K27q (ninS (Ne.symm ne3) nin0))
      have O_bn1_34 : own_Ovr Z T27.heap bN "java/lang/String" := (own_Ovr.keep O_bn1 K27q)
      have E_r_35 : Exa Z T27.heap r "java/lang/String" := (Exa.keep E_r K27q)
      refine own_aastore X28 hx hZ e28 V_bn1_33 rfl (own_Ovr.sto O_bn1_34 (Ins.self E_r_35)) rfl (own_slot ks' d) hJi (by omega) (hb hby d17_86) ?_
      intro T32 h32 X32 e32 W32 A32
      have V32_0 : own_Arr Z h32 bN (.object "java/lang/String") (vs'.set (own_slot ks' d) (.ref r)) := A32
      have N32 := Fr.snoc X32 N27 g_bN
      have sz32 : n0 ≤ h32.size := Nat.le_trans sz27 (Keep.of_wr W32).1
      show own_Go p e below _ T32 (mkF m 87 #[.val (.ref a1), .val (.ref bn), .val (.ref bc), .val (.ref bu), .val (.int i), .val (.int (Int32.ofNat (own_slot ks' d)))] [])
      refine own_by (fun t_ k_ => XS.aloadN X32.here hx rfl (hb hby d17_87) rfl rfl k_) ?_
      show own_Go p e below _ T32 (mkF m 88 #[.val (.ref a1), .val (.ref bn), .val (.ref bc), .val (.ref bu), .val (.int i), .val (.int (Int32.ofNat (own_slot ks' d)))] [(.ref a1)])
      have F_counts1_37 : Fld Z h32 a1 "com/example/hedgewalk/hedgewalk/input/ChildCounts" "counts" "[J" (.ref bC) := (Fld.other W32 (Fld.keep F_counts1 K27q (ninS (Ne.symm ne2) nin0)) (Or.inl ne9))
      refine own_getF X32 hx hZ hown (own_w hw 42 rfl) Via.refl e32 F_counts1_37 (hb hby d17_88) ?_
      intro T36 X36 e36
      show own_Go p e below _ T36 (mkF m 91 #[.val (.ref a1), .val (.ref bn), .val (.ref bc), .val (.ref bu), .val (.int i), .val (.int (Int32.ofNat (own_slot ks' d)))] [(.ref bC)])
      refine own_by (fun t_ k_ => XS.iload X36.here hx rfl (hb hby d17_91) rfl k_) ?_
      show own_Go p e below _ T36 (mkF m 93 #[.val (.ref a1), .val (.ref bn), .val (.ref bc), .val (.ref bu), .val (.int i), .val (.int (Int32.ofNat (own_slot ks' d)))] [(.int (Int32.ofNat (own_slot ks' d))), (.ref bC)])
      refine own_by (fun t_ k_ => XS.aloadN X36.here hx rfl (hb hby d17_93) rfl rfl k_) ?_
      show own_Go p e below _ T36 (mkF m 94 #[.val (.ref a1), .val (.ref bn), .val (.ref bc), .val (.ref bu), .val (.int i), .val (.int (Int32.ofNat (own_slot ks' d)))] [(.ref bc), (.int (Int32.ofNat (own_slot ks' d))), (.ref bC)])
      refine own_by (fun t_ k_ => XS.aloadN X36.here hx rfl (hb hby d17_94) rfl rfl k_) ?_
      show own_Go p e below _ T36 (mkF m 95 #[.val (.ref a1), .val (.ref bn), .val (.ref bc), .val (.ref bu), .val (.int i), .val (.int (Int32.ofNat (own_slot ks' d)))] [(.ref bu), (.ref bc), (.int (Int32.ofNat (own_slot ks' d))), (.ref bC)])
      refine own_by (fun t_ k_ => XS.iload X36.here hx rfl (hb hby d17_95) rfl k_) ?_
      show own_Go p e below _ T36 (mkF m 97 #[.val (.ref a1), .val (.ref bn), .val (.ref bc), .val (.ref bu), .val (.int i), .val (.int (Int32.ofNat (own_slot ks' d)))] [(.int i), (.ref bu), (.ref bc), (.int (Int32.ofNat (own_slot ks' d))), (.ref bC)])
      have Vu1_38 : own_Arr Z h32 bu .int (un.map Value.int) := (own_Arr.other Vu1_30 W32 (Ne.symm ne18))
      refine own_iaload X36 hx hZ e36 Vu1_38 (v := (.int (Int32.ofNat q))) I hi (own_unv hq1) (hb hby d17_97) ?_
      show own_Go p e below _ T36 (mkF m 98 #[.val (.ref a1), .val (.ref bn), .val (.ref bc), .val (.ref bu), .val (.int i), .val (.int (Int32.ofNat (own_slot ks' d)))] [(.int (Int32.ofNat q)), (.ref bc), (.int (Int32.ofNat (own_slot ks' d))), (.ref bC)])
      have Vc1_39 : own_Arr Z h32 bc .long (ct.map Value.long) := (own_Arr.other (own_Arr.keep Vc1 K27q (ninS (Ne.symm ne7) nin0)) W32 (Ne.symm ne17))
      refine own_laload X36 hx hZ e36 Vc1_39 (v := (.long (ct.getD q 0))) q hqi (own_ctv (by omega)) (hb hby d17_98) ?_
      show own_Go p e below _ T36 (mkF m 99 #[.val (.ref a1), .val (.ref bn), .val (.ref bc), .val (.ref bu), .val (.int i), .val (.int (Int32.ofNat (own_slot ks' d)))] [(.long (ct.getD q 0)), (.int (Int32.ofNat (own_slot ks' d))), (.ref bC)])
      have V_bc1_41 : own_Arr Z h32 bC .long (ct'.map Value.long) := (own_Arr.other (own_Arr.keep V_bc1 K27q (ninS (Ne.symm ne4) nin0)) W32 (Ne.symm ne15))
      refine own_lastore X36 hx hZ e36 V_bc1_41 (own_slot ks' d) hJi (by simp only [List.length_set, List.length_map]; omega) (hb hby d17_99) ?_
      intro T40 h40 X40 e40 W40 A40
      have V40_0 : own_Arr Z h40 bC .long ((ct'.map Value.long).set (own_slot ks' d) (.long (ct.getD q 0))) := A40
      have N40 := Fr.snoc X40 N32 g_bC
      have sz40 : n0 ≤ h40.size := Nat.le_trans sz32 (Keep.of_wr W40).1
      show own_Go p e below _ T40 (mkF m 100 #[.val (.ref a1), .val (.ref bn), .val (.ref bc), .val (.ref bu), .val (.int i), .val (.int (Int32.ofNat (own_slot ks' d)))] [])
      refine own_by (fun t_ k_ => XS.aloadN X40.here hx rfl (hb hby d17_100) rfl rfl k_) ?_
      show own_Go p e below _ T40 (mkF m 101 #[.val (.ref a1), .val (.ref bn), .val (.ref bc), .val (.ref bu), .val (.int i), .val (.int (Int32.ofNat (own_slot ks' d)))] [(.ref a1)])
      have F_used1_43 : Fld Z h40 a1 "com/example/hedgewalk/hedgewalk/input/ChildCounts" "used" "[I" (.ref bU) := (Fld.other W40 (Fld.other W32 (Fld.keep F_used1 K27q (ninS (Ne.symm ne2) nin0)) (Or.inl ne9)) (Or.inl ne10))
      refine own_getF X40 hx hZ hown (own_w hw 45 rfl) Via.refl e40 F_used1_43 (hb hby d17_101) ?_
      intro T42 X42 e42
      show own_Go p e below _ T42 (mkF m 104 #[.val (.ref a1), .val (.ref bn), .val (.ref bc), .val (.ref bu), .val (.int i), .val (.int (Int32.ofNat (own_slot ks' d)))] [(.ref bU)])
      refine own_by (fun t_ k_ => XS.iload X42.here hx rfl (hb hby d17_104) rfl k_) ?_
      show own_Go p e below _ T42 (mkF m 106 #[.val (.ref a1), .val (.ref bn), .val (.ref bc), .val (.ref bu), .val (.int i), .val (.int (Int32.ofNat (own_slot ks' d)))] [(.int i), (.ref bU)])
      refine own_by (fun t_ k_ => XS.iload X42.here hx rfl (hb hby d17_106) rfl k_) ?_
      show own_Go p e below _ T42 (mkF m 108 #[.val (.ref a1), .val (.ref bn), .val (.ref bc), .val (.ref bu), .val (.int i), .val (.int (Int32.ofNat (own_slot ks' d)))] [(.int (Int32.ofNat (own_slot ks' d))), (.int i), (.ref bU)])
      have V_bu1_45 : own_Arr Z h40 bU .int (un'.map Value.int) := (own_Arr.other (own_Arr.other (own_Arr.keep V_bu1 K27q (ninS (Ne.symm ne5) nin0)) W32 (Ne.symm ne16)) W40 (Ne.symm ne19))
      refine own_iastore X42 hx hZ e42 V_bu1_45 I hi (by simp only [List.length_set, List.length_map]; omega) (hb hby d17_108) ?_
      intro T44 h44 X44 e44 W44 A44
      have V44_0 : own_Arr Z h44 bU .int ((un'.map Value.int).set I (.int (Int32.ofNat (own_slot ks' d)))) := A44
      have N44 := Fr.snoc X44 N40 g_bU
      have sz44 : n0 ≤ h44.size := Nat.le_trans sz40 (Keep.of_wr W44).1
      show own_Go p e below _ T44 (mkF m 109 #[.val (.ref a1), .val (.ref bn), .val (.ref bc), .val (.ref bu), .val (.int i), .val (.int (Int32.ofNat (own_slot ks' d)))] [])
      refine own_by (fun t_ k_ => XS.iinc X44.here hx rfl (hb hby d17_109) rfl (l' := #[.val (.ref a1), .val (.ref bn), .val (.ref bc), .val (.ref bu), .val (.int (i + (1 : Int32))), .val (.int (Int32.ofNat (own_slot ks' d)))]) rfl k_) ?_
      show own_Go p e below _ T44 (mkF m 112 #[.val (.ref a1), .val (.ref bn), .val (.ref bc), .val (.ref bu), .val (.int (i + (1 : Int32))), .val (.int (Int32.ofNat (own_slot ks' d)))] [])
      refine own_by (fun t_ k_ => XS.goto X44.here hx rfl (pc0 := 112) (pc' := 53) rfl (hb hby d17_112) (by decide) (by decide) k_) ?_
      have E_a11_46 : Exa Z h44 a1 "com/example/hedgewalk/hedgewalk/input/ChildCounts" := (Exa.wr W44 (Exa.wr W40 (Exa.wr W32 (Exa.keep E_a11 K27q))))
      have F_names1_47 : Fld Z h44 a1 "com/example/hedgewalk/hedgewalk/input/ChildCounts" "names" "[Ljava/lang/String;" (.ref bN) := (Fld.other W44 (Fld.other W40 (Fld.other W32 F_names1_29 (Or.inl ne9)) (Or.inl ne10)) (Or.inl ne11))
      have F_counts1_48 : Fld Z h44 a1 "com/example/hedgewalk/hedgewalk/input/ChildCounts" "counts" "[J" (.ref bC) := (Fld.other W44 (Fld.other W40 F_counts1_37 (Or.inl ne10)) (Or.inl ne11))
      have F_used1_49 : Fld Z h44 a1 "com/example/hedgewalk/hedgewalk/input/ChildCounts" "used" "[I" (.ref bU) := (Fld.other W44 F_used1_43 (Or.inl ne11))
      have F_size1_50 : Fld Z h44 a1 "com/example/hedgewalk/hedgewalk/input/ChildCounts" "size" "I" (.int (Int32.ofNat k)) := (Fld.other W44 (Fld.other W40 (Fld.other W32 (Fld.keep F_size1 K27q (ninS (Ne.symm ne2) nin0)) (Or.inl ne9)) (Or.inl ne10)) (Or.inl ne11))
      have V32_51 : own_Arr Z h44 bN (.object "java/lang/String") (vs'.set (own_slot ks' d) (.ref r)) := (own_Arr.other (own_Arr.other V32_0 W40 ne15) W44 ne16)
      have O_bn1_52 : own_Ovr Z h44 bN "java/lang/String" := (own_Ovr.wr (own_Ovr.wr (own_Ovr.wr O_bn1_34 W32) W40) W44)
      have V40_53 : own_Arr Z h44 bC .long ((ct'.map Value.long).set (own_slot ks' d) (.long (ct.getD q 0))) := (own_Arr.other V40_0 W44 ne19)
      have C1_54 : Sta Z h44 "java/lang/String" "COMPACT_STRINGS" "Z" (.int cs) := (Sta.wr W44 (Sta.wr W40 (Sta.wr W32 (own_Sta_keep C1 K27q (nsS (Exa.nostat E_r) ns0)))))
      have M27_55 : own_Strs Z h44 n0 S := (own_Strs.wrA (own_Strs.wrA (own_Strs.wrA M27 W32 V_bn1_33 (by decide) (own_w hw 14 rfl)) W40 V_bc1_41 (by decide) (own_w hw 14 rfl)) W44 V_bu1_45 (by decide) (own_w hw 14 rfl))
      have Vn1_56 : own_Arr Z h44 bn (.object "java/lang/String") vs := (own_Arr.other (own_Arr.other (own_Arr.other Vn1_31 W32 nn) W40 (Ne.symm ne20)) W44 (Ne.symm ne22))
      have Vc1_57 : own_Arr Z h44 bc .long (ct.map Value.long) := (own_Arr.other (own_Arr.other Vc1_39 W40 nc) W44 (Ne.symm ne23))
      have Vu1_58 : own_Arr Z h44 bu .int (un.map Value.int) := (own_Arr.other (own_Arr.other Vu1_38 W40 (Ne.symm ne21)) W44 nu)
      exact ih _ _ _ _ (I + 1) (vs'.set (own_slot ks' d) (.ref r)) (ks'.set (own_slot ks' d) (some d)) (ct'.set (own_slot ks' d) (ct.getD q 0)) (un'.set I (Int32.ofNat (own_slot ks' d))) _ (Or.inr ⟨_, rfl⟩) X44 e44 N44 sz44 (by omega) (own_inc hi (by omega)) C1_54 M27_55 Vn1_56 Vc1_57 Vu1_58 ⟨E_a11_46, F_names1_47, F_counts1_48, F_used1_49, F_size1_50, V32_51, O_bn1_52, own_Arr.cast V40_53 own_ct1, own_Arr.cast V44_0 own_un1, g_a1, g_bN, g_bC, g_bU⟩ (HR'.put hJ hmr) (HI'.put hJ (by omega)) (by rw [List.length_set, List.length_set]; exact hct') (by rw [List.length_set]; exact h16)
  have ne1 : a1 ≠ bn := own_exa_arr E_a1 (own_w hw 31 rfl) V_bn
  have ne2 : a1 ≠ bc := own_exa_arr E_a1 (own_w hw 31 rfl) V_bc
  have ne3 : a1 ≠ bu := own_exa_arr E_a1 (own_w hw 31 rfl) V_bu
  have ne4 : bn ≠ bc := own_Arr.ne V_bn V_bc (by decide)
  have ne5 : bn ≠ bu := own_Arr.ne V_bn V_bu (by decide)
  have ne6 : bc ≠ bu := own_Arr.ne V_bc V_bu (by decide)
  show own_Go p e below _ s₁ (mkF m 0 #[.val (.ref a1), .unset, .unset, .unset, .unset, .unset] [])
  refine own_by (fun t_ k_ => XS.aloadN X0.here hx rfl (hb hby d17_0) rfl rfl k_) ?_
  show own_Go p e below _ s₁ (mkF m 1 #[.val (.ref a1), .unset, .unset, .unset, .unset, .unset] [(.ref a1)])
  refine own_getF X0 hx hZ hown (own_w hw 39 rfl) Via.refl e0 F_names (hb hby d17_1) ?_
  intro T7 X7 e7
  show own_Go p e below _ T7 (mkF m 4 #[.val (.ref a1), .unset, .unset, .unset, .unset, .unset] [(.ref bn)])
  refine own_by (fun t_ k_ => XS.astoreN X7.here hx rfl (hb hby d17_4) rfl rfl (l' := #[.val (.ref a1), .val (.ref bn), .unset, .unset, .unset, .unset]) rfl k_) ?_
  show own_Go p e below _ T7 (mkF m 5 #[.val (.ref a1), .val (.ref bn), .unset, .unset, .unset, .unset] [])
  refine own_by (fun t_ k_ => XS.aloadN X7.here hx rfl (hb hby d17_5) rfl rfl k_) ?_
  show own_Go p e below _ T7 (mkF m 6 #[.val (.ref a1), .val (.ref bn), .unset, .unset, .unset, .unset] [(.ref a1)])
  refine own_getF X7 hx hZ hown (own_w hw 42 rfl) Via.refl e7 F_counts (hb hby d17_6) ?_
  intro T8 X8 e8
  show own_Go p e below _ T8 (mkF m 9 #[.val (.ref a1), .val (.ref bn), .unset, .unset, .unset, .unset] [(.ref bc)])
  refine own_by (fun t_ k_ => XS.astoreN X8.here hx rfl (hb hby d17_9) rfl rfl (l' := #[.val (.ref a1), .val (.ref bn), .val (.ref bc), .unset, .unset, .unset]) rfl k_) ?_
  show own_Go p e below _ T8 (mkF m 10 #[.val (.ref a1), .val (.ref bn), .val (.ref bc), .unset, .unset, .unset] [])
  refine own_by (fun t_ k_ => XS.aloadN X8.here hx rfl (hb hby d17_10) rfl rfl k_) ?_
  show own_Go p e below _ T8 (mkF m 11 #[.val (.ref a1), .val (.ref bn), .val (.ref bc), .unset, .unset, .unset] [(.ref a1)])
  refine own_getF X8 hx hZ hown (own_w hw 45 rfl) Via.refl e8 F_used (hb hby d17_11) ?_
  intro T9 X9 e9
  show own_Go p e below _ T9 (mkF m 14 #[.val (.ref a1), .val (.ref bn), .val (.ref bc), .unset, .unset, .unset] [(.ref bu)])
  refine own_by (fun t_ k_ => XS.astoreN X9.here hx rfl (hb hby d17_14) rfl rfl (l' := #[.val (.ref a1), .val (.ref bn), .val (.ref bc), .val (.ref bu), .unset, .unset]) rfl k_) ?_
  show own_Go p e below _ T9 (mkF m 15 #[.val (.ref a1), .val (.ref bn), .val (.ref bc), .val (.ref bu), .unset, .unset] [])
  refine own_by (fun t_ k_ => XS.aloadN X9.here hx rfl (hb hby d17_15) rfl rfl k_) ?_
  show own_Go p e below _ T9 (mkF m 16 #[.val (.ref a1), .val (.ref bn), .val (.ref bc), .val (.ref bu), .unset, .unset] [(.ref a1)])
  refine own_by (fun t_ k_ => XS.aloadN X9.here hx rfl (hb hby d17_16) rfl rfl k_) ?_
  show own_Go p e below _ T9 (mkF m 17 #[.val (.ref a1), .val (.ref bn), .val (.ref bc), .val (.ref bu), .unset, .unset] [(.ref bn), (.ref a1)])
  refine own_alenK X9 hx hZ e9 V_bn 8 hl8 rfl (hb hby d17_17) ?_
  show own_Go p e below _ T9 (mkF m 18 #[.val (.ref a1), .val (.ref bn), .val (.ref bc), .val (.ref bu), .unset, .unset] [(.int (8 : Int32)), (.ref a1)])
  refine own_by (fun t_ k_ => XS.iconst X9.here hx rfl (hb hby d17_18) k_) ?_
  show own_Go p e below _ T9 (mkF m 19 #[.val (.ref a1), .val (.ref bn), .val (.ref bc), .val (.ref bu), .unset, .unset] [(.int (2 : Int32)), (.int (8 : Int32)), (.ref a1)])
  refine own_by (fun t_ k_ => XS.imul X9.here hx rfl (hb hby d17_19) rfl k_) ?_
  show own_Go p e below _ T9 (mkF m 20 #[.val (.ref a1), .val (.ref bn), .val (.ref bc), .val (.ref bu), .unset, .unset] [(.int (16 : Int32)), (.ref a1)])
  refine own_newRO X9 hx hZ hown (own_w hw 37 rfl) (own_w hw 38 rfl) e9 (hb hby d17_20) 16 16 (by decide) (by decide) (by decide) (by decide) (by decide) (ad := "[Ljava/lang/String;") (by decide) ?_
  intro T10 h10 b10 X10 e10 g10 E10 A10 Ex10 O10
  have lt_a1_b10 : a1 < b10 := Nat.lt_of_lt_of_le E_a1.lt (Nat.le_of_eq g10.symm)
  have lt_bn_b10 : bn < b10 := Nat.lt_of_lt_of_le V_bn.lt (Nat.le_of_eq g10.symm)
  have lt_bc_b10 : bc < b10 := Nat.lt_of_lt_of_le V_bc.lt (Nat.le_of_eq g10.symm)
  have lt_bu_b10 : bu < b10 := Nat.lt_of_lt_of_le V_bu.lt (Nat.le_of_eq g10.symm)
  have g_b10 : n0 ≤ b10 := Nat.le_trans Z0 (Nat.le_of_eq g10.symm)
  have sz10 : n0 ≤ h10.size := Nat.le_trans Z0 E10.1
  have V10_0 : own_Arr Z h10 b10 (.object "java/lang/String") [.null, .null, .null, .null, .null, .null, .null, .null, .null, .null, .null, .null, .null, .null, .null, .null] := A10
  show own_Go p e below _ T10 (mkF m 23 #[.val (.ref a1), .val (.ref bn), .val (.ref bc), .val (.ref bu), .unset, .unset] [(.ref b10), (.ref a1)])
  have F_names_12 : Fld Z h10 a1 "com/example/hedgewalk/hedgewalk/input/ChildCounts" "names" "[Ljava/lang/String;" (.ref bn) := (Fld.ext E10 F_names)
  have E_a1_13 : Exa Z h10 a1 "com/example/hedgewalk/hedgewalk/input/ChildCounts" := (Exa.ext E10 E_a1)
  refine own_putF X10 hx hZ hown (own_w hw 39 rfl) Via.refl e10 F_names_12 E_a1_13 (Or.inl (own_w hw 40 rfl)) (own_w hw 31 rfl) (ty := (.array (.object "java/lang/String"))) (by decide) rfl rfl (hb hby d17_23) ?_
  intro T11 h11 X11 e11 W11
  have F11 := Fld.same W11 F_names_12
  have N11 := Fr.snoc X11 N0 g_a1
  have sz11 : n0 ≤ h11.size := Nat.le_trans sz10 (Keep.of_wr W11).1
  show own_Go p e below _ T11 (mkF m 26 #[.val (.ref a1), .val (.ref bn), .val (.ref bc), .val (.ref bu), .unset, .unset] [])
  refine own_by (fun t_ k_ => XS.aloadN X11.here hx rfl (hb hby d17_26) rfl rfl k_) ?_
  show own_Go p e below _ T11 (mkF m 27 #[.val (.ref a1), .val (.ref bn), .val (.ref bc), .val (.ref bu), .unset, .unset] [(.ref a1)])
  refine own_by (fun t_ k_ => XS.aloadN X11.here hx rfl (hb hby d17_27) rfl rfl k_) ?_
  show own_Go p e below _ T11 (mkF m 28 #[.val (.ref a1), .val (.ref bn), .val (.ref bc), .val (.ref bu), .unset, .unset] [(.ref a1), (.ref a1)])
  refine own_getF X11 hx hZ hown (own_w hw 39 rfl) Via.refl e11 F11 (hb hby d17_28) ?_
  intro T14 X14 e14
  show own_Go p e below _ T14 (mkF m 31 #[.val (.ref a1), .val (.ref bn), .val (.ref bc), .val (.ref bu), .unset, .unset] [(.ref b10), (.ref a1)])
  have V10_15 : own_Arr Z h11 b10 (.object "java/lang/String") [.null, .null, .null, .null, .null, .null, .null, .null, .null, .null, .null, .null, .null, .null, .null, .null] := (own_Arr.other V10_0 W11 (Ne.symm (Nat.ne_of_lt lt_a1_b10)))
  refine own_alen X14 hx hZ e14 V10_15 (hb hby d17_31) ?_
  show own_Go p e below _ T14 (mkF m 32 #[.val (.ref a1), .val (.ref bn), .val (.ref bc), .val (.ref bu), .unset, .unset] [(.int (16 : Int32)), (.ref a1)])
  refine own_newP X14 hx hZ (own_w hw 41 rfl) e14 (hb hby d17_32) 16 16 (by decide) (by decide) (by decide) (by decide) (by decide) ?_
  intro T16 h16 b16 X16 e16 g16 E16 A16
  have E_a1_17 : Exa Z h11 a1 "com/example/hedgewalk/hedgewalk/input/ChildCounts" := (Exa.wr W11 E_a1_13)
  have lt_a1_b16 : a1 < b16 := Nat.lt_of_lt_of_le E_a1_17.lt (Nat.le_of_eq g16.symm)
  have V_bn_18 : own_Arr Z h11 bn (.object "java/lang/String") vs := (own_Arr.other (own_Arr.ext V_bn E10) W11 (Ne.symm ne1))
  have lt_bn_b16 : bn < b16 := Nat.lt_of_lt_of_le V_bn_18.lt (Nat.le_of_eq g16.symm)
  have V_bc_19 : own_Arr Z h11 bc .long (ct.map Value.long) := (own_Arr.other (own_Arr.ext V_bc E10) W11 (Ne.symm ne2))
  have lt_bc_b16 : bc < b16 := Nat.lt_of_lt_of_le V_bc_19.lt (Nat.le_of_eq g16.symm)
  have V_bu_20 : own_Arr Z h11 bu .int (un.map Value.int) := (own_Arr.other (own_Arr.ext V_bu E10) W11 (Ne.symm ne3))
  have lt_bu_b16 : bu < b16 := Nat.lt_of_lt_of_le V_bu_20.lt (Nat.le_of_eq g16.symm)
  have lt_b10_b16 : b10 < b16 := Nat.lt_of_lt_of_le V10_15.lt (Nat.le_of_eq g16.symm)
  have g_b16 : n0 ≤ b16 := Nat.le_trans sz11 (Nat.le_of_eq g16.symm)
  have sz16 : n0 ≤ h16.size := Nat.le_trans sz11 E16.1
  have V16_0 : own_Arr Z h16 b16 .long [(.long (0 : Int64)), (.long (0 : Int64)), (.long (0 : Int64)), (.long (0 : Int64)), (.long (0 : Int64)), (.long (0 : Int64)), (.long (0 : Int64)), (.long (0 : Int64)), (.long (0 : Int64)), (.long (0 : Int64)), (.long (0 : Int64)), (.long (0 : Int64)), (.long (0 : Int64)), (.long (0 : Int64)), (.long (0 : Int64)), (.long (0 : Int64))] := A16
  show own_Go p e below _ T16 (mkF m 34 #[.val (.ref a1), .val (.ref bn), .val (.ref bc), .val (.ref bu), .unset, .unset] [(.ref b16), (.ref a1)])
  have F_counts_22 : Fld Z h16 a1 "com/example/hedgewalk/hedgewalk/input/ChildCounts" "counts" "[J" (.ref bc) := (Fld.ext E16 (Fld.other W11 (Fld.ext E10 F_counts) (Or.inr (slot_ne (Or.inl (own_w hw 43 rfl)) (Or.inl (own_w hw 40 rfl)) (by decide) (t := (.array .long)) (t' := (.array (.object "java/lang/String"))) (by decide) (by decide)))))
  have E_a1_23 : Exa Z h16 a1 "com/example/hedgewalk/hedgewalk/input/ChildCounts" := (Exa.ext E16 E_a1_17)
  refine own_putF X16 hx hZ hown (own_w hw 42 rfl) Via.refl e16 F_counts_22 E_a1_23 (Or.inl (own_w hw 43 rfl)) (own_w hw 31 rfl) (ty := (.array .long)) (by decide) rfl rfl (hb hby d17_34) ?_
  intro T21 h21 X21 e21 W21
  have F21 := Fld.same W21 F_counts_22
  have N21 := Fr.snoc X21 N11 g_a1
  have sz21 : n0 ≤ h21.size := Nat.le_trans sz16 (Keep.of_wr W21).1
  show own_Go p e below _ T21 (mkF m 37 #[.val (.ref a1), .val (.ref bn), .val (.ref bc), .val (.ref bu), .unset, .unset] [])
  refine own_by (fun t_ k_ => XS.aloadN X21.here hx rfl (hb hby d17_37) rfl rfl k_) ?_
  show own_Go p e below _ T21 (mkF m 38 #[.val (.ref a1), .val (.ref bn), .val (.ref bc), .val (.ref bu), .unset, .unset] [(.ref a1)])
  refine own_by (fun t_ k_ => XS.aloadN X21.here hx rfl (hb hby d17_38) rfl rfl k_) ?_
  show own_Go p e below _ T21 (mkF m 39 #[.val (.ref a1), .val (.ref bn), .val (.ref bc), .val (.ref bu), .unset, .unset] [(.ref a1), (.ref a1)])
  have F11_25 : Fld Z h21 a1 "com/example/hedgewalk/hedgewalk/input/ChildCounts" "names" "[Ljava/lang/String;" (.ref b10) := (Fld.other W21 (Fld.ext E16 F11) (Or.inr (slot_ne (Or.inl (own_w hw 40 rfl)) (Or.inl (own_w hw 43 rfl)) (by decide) (t := (.array (.object "java/lang/String"))) (t' := (.array .long)) (by decide) (by decide))))
  refine own_getF X21 hx hZ hown (own_w hw 39 rfl) Via.refl e21 F11_25 (hb hby d17_39) ?_
  intro T24 X24 e24
  show own_Go p e below _ T24 (mkF m 42 #[.val (.ref a1), .val (.ref bn), .val (.ref bc), .val (.ref bu), .unset, .unset] [(.ref b10), (.ref a1)])
  have V10_26 : own_Arr Z h21 b10 (.object "java/lang/String") [.null, .null, .null, .null, .null, .null, .null, .null, .null, .null, .null, .null, .null, .null, .null, .null] := (own_Arr.other (own_Arr.ext V10_15 E16) W21 (Ne.symm (Nat.ne_of_lt lt_a1_b10)))
  refine own_alen X24 hx hZ e24 V10_26 (hb hby d17_42) ?_
  show own_Go p e below _ T24 (mkF m 43 #[.val (.ref a1), .val (.ref bn), .val (.ref bc), .val (.ref bu), .unset, .unset] [(.int (16 : Int32)), (.ref a1)])
  refine own_by (fun t_ k_ => XS.iconst X24.here hx rfl (hb hby d17_43) k_) ?_
  show own_Go p e below _ T24 (mkF m 44 #[.val (.ref a1), .val (.ref bn), .val (.ref bc), .val (.ref bu), .unset, .unset] [(.int (2 : Int32)), (.int (16 : Int32)), (.ref a1)])
  refine own_by (fun t_ k_ => XS.idiv X24.here hx rfl (hb hby d17_44) rfl (by decide) k_) ?_
  show own_Go p e below _ T24 (mkF m 45 #[.val (.ref a1), .val (.ref bn), .val (.ref bc), .val (.ref bu), .unset, .unset] [(.int ((16 : Int32) / (2 : Int32))), (.ref a1)])
  refine own_newP X24 hx hZ (own_w hw 44 rfl) e24 (hb hby d17_45) 8 8 (by decide) (by decide) (by decide) (by decide) (by decide) ?_
  intro T27 h27 b27 X27 e27 g27 E27 A27
  have E_a1_28 : Exa Z h21 a1 "com/example/hedgewalk/hedgewalk/input/ChildCounts" := (Exa.wr W21 E_a1_23)
  have lt_a1_b27 : a1 < b27 := Nat.lt_of_lt_of_le E_a1_28.lt (Nat.le_of_eq g27.symm)
  have V_bn_29 : own_Arr Z h21 bn (.object "java/lang/String") vs := (own_Arr.other (own_Arr.ext V_bn_18 E16) W21 (Ne.symm ne1))
  have lt_bn_b27 : bn < b27 := Nat.lt_of_lt_of_le V_bn_29.lt (Nat.le_of_eq g27.symm)
  have V_bc_30 : own_Arr Z h21 bc .long (ct.map Value.long) := (own_Arr.other (own_Arr.ext V_bc_19 E16) W21 (Ne.symm ne2))
  have lt_bc_b27 : bc < b27 := Nat.lt_of_lt_of_le V_bc_30.lt (Nat.le_of_eq g27.symm)
  have V_bu_31 : own_Arr Z h21 bu .int (un.map Value.int) := (own_Arr.other (own_Arr.ext V_bu_20 E16) W21 (Ne.symm ne3))
  have lt_bu_b27 : bu < b27 := Nat.lt_of_lt_of_le V_bu_31.lt (Nat.le_of_eq g27.symm)
  have lt_b10_b27 : b10 < b27 := Nat.lt_of_lt_of_le V10_26.lt (Nat.le_of_eq g27.symm)
  have V16_32 : own_Arr Z h21 b16 .long [(.long (0 : Int64)), (.long (0 : Int64)), (.long (0 : Int64)), (.long (0 : Int64)), (.long (0 : Int64)), (.long (0 : Int64)), (.long (0 : Int64)), (.long (0 : Int64)), (.long (0 : Int64)), (.long (0 : Int64)), (.long (0 : Int64)), (.long (0 : Int64)), (.long (0 : Int64)), (.long (0 : Int64)), (.long (0 : Int64)), (.long (0 : Int64))] := (own_Arr.other V16_0 W21 (Ne.symm (Nat.ne_of_lt lt_a1_b16)))
  have lt_b16_b27 : b16 < b27 := Nat.lt_of_lt_of_le V16_32.lt (Nat.le_of_eq g27.symm)
  have g_b27 : n0 ≤ b27 := Nat.le_trans sz21 (Nat.le_of_eq g27.symm)
  have sz27 : n0 ≤ h27.size := Nat.le_trans sz21 E27.1
  have V27_0 : own_Arr Z h27 b27 .int (List.replicate 8 (.int (0 : Int32))) := A27
  show own_Go p e below _ T27 (mkF m 47 #[.val (.ref a1), .val (.ref bn), .val (.ref bc), .val (.ref bu), .unset, .unset] [(.ref b27), (.ref a1)])
  have F_used_34 : Fld Z h27 a1 "com/example/hedgewalk/hedgewalk/input/ChildCounts" "used" "[I" (.ref bu) := (Fld.ext E27 (Fld.other W21 (Fld.ext E16 (Fld.other W11 (Fld.ext E10 F_used) (Or.inr (slot_ne (Or.inl (own_w hw 46 rfl)) (Or.inl (own_w hw 40 rfl)) (by decide) (t := (.array .int)) (t' := (.array (.object "java/lang/String"))) (by decide) (by decide))))) (Or.inr (slot_ne (Or.inl (own_w hw 46 rfl)) (Or.inl (own_w hw 43 rfl)) (by decide) (t := (.array .int)) (t' := (.array .long)) (by decide) (by decide)))))
  have E_a1_35 : Exa Z h27 a1 "com/example/hedgewalk/hedgewalk/input/ChildCounts" := (Exa.ext E27 E_a1_28)
  refine own_putF X27 hx hZ hown (own_w hw 45 rfl) Via.refl e27 F_used_34 E_a1_35 (Or.inl (own_w hw 46 rfl)) (own_w hw 31 rfl) (ty := (.array .int)) (by decide) rfl rfl (hb hby d17_47) ?_
  intro T33 h33 X33 e33 W33
  have F33 := Fld.same W33 F_used_34
  have N33 := Fr.snoc X33 N21 g_a1
  have sz33 : n0 ≤ h33.size := Nat.le_trans sz27 (Keep.of_wr W33).1
  show own_Go p e below _ T33 (mkF m 50 #[.val (.ref a1), .val (.ref bn), .val (.ref bc), .val (.ref bu), .unset, .unset] [])
  refine own_by (fun t_ k_ => XS.iconst X33.here hx rfl (hb hby d17_50) k_) ?_
  show own_Go p e below _ T33 (mkF m 51 #[.val (.ref a1), .val (.ref bn), .val (.ref bc), .val (.ref bu), .unset, .unset] [(.int (0 : Int32))])
  refine own_by (fun t_ k_ => XS.istore X33.here hx rfl (hb hby d17_51) rfl (l' := #[.val (.ref a1), .val (.ref bn), .val (.ref bc), .val (.ref bu), .val (.int (0 : Int32)), .unset]) rfl k_) ?_
  have E_a1_36 : Exa Z h33 a1 "com/example/hedgewalk/hedgewalk/input/ChildCounts" := (Exa.wr W33 E_a1_35)
  have F11_37 : Fld Z h33 a1 "com/example/hedgewalk/hedgewalk/input/ChildCounts" "names" "[Ljava/lang/String;" (.ref b10) := (Fld.other W33 (Fld.ext E27 F11_25) (Or.inr (slot_ne (Or.inl (own_w hw 40 rfl)) (Or.inl (own_w hw 46 rfl)) (by decide) (t := (.array (.object "java/lang/String"))) (t' := (.array .int)) (by decide) (by decide))))
  have F21_38 : Fld Z h33 a1 "com/example/hedgewalk/hedgewalk/input/ChildCounts" "counts" "[J" (.ref b16) := (Fld.other W33 (Fld.ext E27 F21) (Or.inr (slot_ne (Or.inl (own_w hw 43 rfl)) (Or.inl (own_w hw 46 rfl)) (by decide) (t := (.array .long)) (t' := (.array .int)) (by decide) (by decide))))
  have F_size_39 : Fld Z h33 a1 "com/example/hedgewalk/hedgewalk/input/ChildCounts" "size" "I" (.int (Int32.ofNat k)) := (Fld.other W33 (Fld.ext E27 (Fld.other W21 (Fld.ext E16 (Fld.other W11 (Fld.ext E10 F_size) (Or.inr (slot_ne (Or.inl (own_w hw 74 rfl)) (Or.inl (own_w hw 40 rfl)) (by decide) (t := .int) (t' := (.array (.object "java/lang/String"))) (by decide) (by decide))))) (Or.inr (slot_ne (Or.inl (own_w hw 74 rfl)) (Or.inl (own_w hw 43 rfl)) (by decide) (t := .int) (t' := (.array .long)) (by decide) (by decide))))) (Or.inr (slot_ne (Or.inl (own_w hw 74 rfl)) (Or.inl (own_w hw 46 rfl)) (by decide) (t := .int) (t' := (.array .int)) (by decide) (by decide))))
  have V10_40 : own_Arr Z h33 b10 (.object "java/lang/String") [.null, .null, .null, .null, .null, .null, .null, .null, .null, .null, .null, .null, .null, .null, .null, .null] := (own_Arr.other (own_Arr.ext V10_26 E27) W33 (Ne.symm (Nat.ne_of_lt lt_a1_b10)))
  have O10_41 : own_Ovr Z h33 b10 "java/lang/String" := (own_Ovr.wr (own_Ovr.ext (own_Ovr.wr (own_Ovr.ext (own_Ovr.wr O10 W11) E16) W21) E27) W33)
  have V16_42 : own_Arr Z h33 b16 .long [(.long (0 : Int64)), (.long (0 : Int64)), (.long (0 : Int64)), (.long (0 : Int64)), (.long (0 : Int64)), (.long (0 : Int64)), (.long (0 : Int64)), (.long (0 : Int64)), (.long (0 : Int64)), (.long (0 : Int64)), (.long (0 : Int64)), (.long (0 : Int64)), (.long (0 : Int64)), (.long (0 : Int64)), (.long (0 : Int64)), (.long (0 : Int64))] := (own_Arr.other (own_Arr.ext V16_32 E27) W33 (Ne.symm (Nat.ne_of_lt lt_a1_b16)))
  have V27_43 : own_Arr Z h33 b27 .int (List.replicate 8 (.int (0 : Int32))) := (own_Arr.other V27_0 W33 (Ne.symm (Nat.ne_of_lt lt_a1_b27)))
  have S_cs_44 : Sta Z h33 "java/lang/String" "COMPACT_STRINGS" "Z" (.int cs) := (Sta.wr W33 (Sta.ext E27 (Sta.wr W21 (Sta.ext E16 (Sta.wr W11 (Sta.ext E10 S_cs))))))
  have HS_45 : own_Strs Z h33 n0 S := (own_Strs.wrE (own_Strs.ext (own_Strs.wrE (own_Strs.ext (own_Strs.wrE (own_Strs.ext HS E10) W11 E_a1_13 (own_w hw 31 rfl)) E16) W21 E_a1_23 (own_w hw 31 rfl)) E27) W33 E_a1_35 (own_w hw 31 rfl))
  have V_bn_46 : own_Arr Z h33 bn (.object "java/lang/String") vs := (own_Arr.other (own_Arr.ext V_bn_29 E27) W33 (Ne.symm ne1))
  have V_bc_47 : own_Arr Z h33 bc .long (ct.map Value.long) := (own_Arr.other (own_Arr.ext V_bc_30 E27) W33 (Ne.symm ne2))
  have V_bu_48 : own_Arr Z h33 bu .int (un.map Value.int) := (own_Arr.other (own_Arr.ext V_bu_31 E27) W33 (Ne.symm ne3))
  exact lp b10 b16 b27 (Nat.ne_of_lt lt_bn_b10) (Nat.ne_of_lt lt_bc_b16) (Nat.ne_of_lt lt_bu_b27) k _ _ _ _ 0 (List.replicate 16 .null) (List.replicate 16 none) (List.replicate 16 0) (List.replicate 8 0) _ (Or.inl rfl) X33 e33 N33 sz33 (by omega) (by decide) S_cs_44 HS_45 V_bn_46 V_bc_47 V_bu_48 ⟨E_a1_36, F11_37, F21_38, F33, F_size_39, V10_40, O10_41, V16_42, V27_43, g_a1, g_b10, g_b16, g_b27⟩ (own_Rel.nil 16) (own_Inv.nil (Or.inr rfl) rfl) rfl rfl
theorem ef_8 (m : MethodId) (a1 : Addr) (a2 : Addr) : entryFrame m #[(.ref a1), (.ref a2)] 3 = mkF m 0 #[.val (.ref a1), .val (.ref a2), .unset] [] := by first | (simp [entryFrame, mkF, argsToLocals, Value.category]; done) | rfl
set_option maxRecDepth 65536 in
set_option maxHeartbeats 40000000 in
theorem rm8 (l : Launch) (Z : State) (a0 : Array Value) (hw : ∀ d ∈ tables_1, d.before a0 Z = true) (ws : List Jvm.Cond) (a1 : Addr) (a2 : Addr) (bn : Addr) (bc : Addr) (bu : Addr) (vs : List Value) (ks : List (Option Int32)) (ct : List Int64) (un : List Int32) (k : Nat) (S : List (Addr × Int32)) (cs : Int32) (cc : Int32) (h0 : Heap) (n0 : Nat) (Z0 : n0 ≤ h0.size) (S_cs : Sta Z h0 "java/lang/String" "COMPACT_STRINGS" "Z" (.int cs)) (hcs : ¬ cs = 0) (HS : own_Strs Z h0 n0 S) (hm : (a2, cc) ∈ S) (HT : own_Tab Z h0 n0 a1 bn bc bu vs ks ct un k S) (hk : k ≤ 4) :
    MetFree l (⟨"com/example/hedgewalk/hedgewalk/input/ChildCounts", "increment", "(Ljava/lang/String;)J"⟩ : MethodName) (head1 (Jvm.Cond.code (⟨"com/example/hedgewalk/hedgewalk/input/ChildCounts", "increment", "(Ljava/lang/String;)J"⟩ : MethodName) prog_87_method_2_code 3 (some .long) :: ws) ({ frames := 4, cells := 3, slots := 40, locals := 80 } : Room)) (fun a U => a = #[(.ref a1), (.ref a2)] ∧ Z.Warmed39 U.vm ∧ U.heap = h0) (fun _ _ _ _ _ => True) (fun _ U o U' => ∃ v L, o = .returned v ∧ Q8 Z a1 cs S n0 v U'.heap L ∧ FrameEnd U o U' L ({ frames := 4, cells := 3, slots := 40, locals := 80 } : Room).cells ({ frames := 4, cells := 3, slots := 40, locals := 80 } : Room).slots) := by
  refine MetFree.of_bodySF (plainFor_of_name pn_7) hisR ?_
  intro p e s m args below meth c s₁ Bd hml0 hP hK
  obtain ⟨rfl, hZ, hh⟩ := hP
  have hx := Bd.exec
  have hby := Bd.bytes
  have hml : c.maxLocals = 3 := hml0
  have hown : s.vm.findClass "com/example/hedgewalk/hedgewalk/input/ChildCounts" = some m.cls := findClass_of_methodNamed Bd.named
  have hnm := (name_of_methodNamed Bd.named Bd.method).1
  have hlk : meth.locks = false := BodyLoose.notSynchronized Bd
  have X0 : Stand p l e ({ frames := 4, cells := 3, slots := 40, locals := 80 } : Room) s m #[(.ref a1), (.ref a2)] below meth c s₁ [] 0 0 := Stand.of_body Bd
  have e0 : s₁.heap = h0 := by rw [← hh, Bd.state]; rfl
  have N0 := Fr.nil n0
  refine own_start (Q := Q8 Z a1 cs S n0) (ef_8 m a1 a2) ?_
  obtain ⟨⟨E_a1, F_names, F_counts, F_used, F_size, V_bn, O_bn, V_bc, V_bu, g_a1, g_bn, g_bc, g_bu⟩, HR, HI, hct⟩ := HT
  obtain ⟨HN2, ok2, g_a2⟩ : own_Nm Z h0 a2 cc ∧ own_Ok cc ∧ n0 ≤ a2 := HS _ hm
  have E_a2 := HN2.exa
  have hN := HI.1
  have hu := HI.2.1
  have hku := HI.2.2.1
  have hl := HR.1
  have ne1 : a1 ≠ a2 := ne_exa E_a1 E_a2 (by decide)
  have ne2 : a1 ≠ bn := own_exa_arr E_a1 (own_w hw 31 rfl) V_bn
  have ne3 : a1 ≠ bc := own_exa_arr E_a1 (own_w hw 31 rfl) V_bc
  have ne4 : a1 ≠ bu := own_exa_arr E_a1 (own_w hw 31 rfl) V_bu
  have ne5 : a2 ≠ bn := own_exa_arr E_a2 (own_w hw 14 rfl) V_bn
  have ne6 : a2 ≠ bc := own_exa_arr E_a2 (own_w hw 14 rfl) V_bc
  have ne7 : a2 ≠ bu := own_exa_arr E_a2 (own_w hw 14 rfl) V_bu
  have ne8 : bn ≠ bc := own_Arr.ne V_bn V_bc (by decide)
  have ne9 : bn ≠ bu := own_Arr.ne V_bn V_bu (by decide)
  have ne10 : bc ≠ bu := own_Arr.ne V_bc V_bu (by decide)
  show own_Go p e below _ s₁ (mkF m 0 #[.val (.ref a1), .val (.ref a2), .unset] [])
  refine own_by (fun t_ k_ => XS.aloadN X0.here hx rfl (hb hby d8_0) rfl rfl k_) ?_
  show own_Go p e below _ s₁ (mkF m 1 #[.val (.ref a1), .val (.ref a2), .unset] [(.ref a1)])
  refine own_by (fun t_ k_ => XS.aloadN X0.here hx rfl (hb hby d8_1) rfl rfl k_) ?_
  show own_Go p e below _ s₁ (mkF m 2 #[.val (.ref a1), .val (.ref a2), .unset] [(.ref a2), (.ref a1)])
  refine own_callP (W := 0) X0 hx hZ (y := (⟨"com/example/hedgewalk/hedgewalk/input/ChildCounts", "slotOf", "(Ljava/lang/String;)I"⟩ : MethodName)) hown (own_w hw 52 rfl) (own_w hw 53 rfl) (own_w hw 31 rfl) (own_w hw 54 rfl) (own_w hw 32 rfl) (own_w hw 55 rfl) (by decide) (by rw [hml]; rfl) (argsL := [(.ref a2)]) pd_7 rfl (a := a1) e0 E_a1 (rm9 l Z a0 hw [] a1 a2 bn vs ks S cs cc h0 n0 Z0 S_cs hcs HS hm HR HI.1 HI.free E_a1 F_names V_bn) (by decide) (by decide) (Nat.le_of_eq rfl) (by decide) (by decide) (rest := []) rfl (hb hby d8_2) ?_
  intro v11 T11 L11 X11 hQ11
  obtain ⟨rfl, N11q, K11q, M11⟩ := hQ11
  have N11 := Fr.app N0 N11q
  have sz11 : n0 ≤ T11.heap.size := Nat.le_trans Z0 K11q.1
  show own_Go p e below _ T11 (mkF m 5 #[.val (.ref a1), .val (.ref a2), .unset] [(.int (Int32.ofNat (own_slot ks cc)))])
  refine own_by (fun t_ k_ => XS.istoreN X11.here hx rfl (hb hby d8_5) rfl (l' := #[.val (.ref a1), .val (.ref a2), .val (.int (Int32.ofNat (own_slot ks cc)))]) rfl k_) ?_
  obtain ⟨hJ, hJ'⟩ := own_slot_spec HI.free cc
  have hJi : (Int32.ofNat (own_slot ks cc)).toInt = ((own_slot ks cc : Nat) : Int) := own_ofi (by omega)
  rcases hJ' with hk0 | hk0
  · have hv := HR.atN hk0
    show own_Go p e below _ T11 (mkF m 6 #[.val (.ref a1), .val (.ref a2), .val (.int (Int32.ofNat (own_slot ks cc)))] [])
    refine own_by (fun t_ k_ => XS.aloadN X11.here hx rfl (hb hby d8_6) rfl rfl k_) ?_
    show own_Go p e below _ T11 (mkF m 7 #[.val (.ref a1), .val (.ref a2), .val (.int (Int32.ofNat (own_slot ks cc)))] [(.ref a1)])
    have F_names_13 : Fld Z T11.heap a1 "com/example/hedgewalk/hedgewalk/input/ChildCounts" "names" "[Ljava/lang/String;" (.ref bn) := (Fld.keep F_names K11q (ninS ne1 nin0))
    refine own_getF X11 hx hZ hown (own_w hw 39 rfl) Via.refl rfl F_names_13 (hb hby d8_7) ?_
    intro T12 X12 e12
    show own_Go p e below _ T12 (mkF m 10 #[.val (.ref a1), .val (.ref a2), .val (.int (Int32.ofNat (own_slot ks cc)))] [(.ref bn)])
    refine own_by (fun t_ k_ => XS.iloadN X12.here hx rfl (hb hby d8_10) rfl k_) ?_
    show own_Go p e below _ T12 (mkF m 11 #[.val (.ref a1), .val (.ref a2), .val (.int (Int32.ofNat (own_slot ks cc)))] [(.int (Int32.ofNat (own_slot ks cc))), (.ref bn)])
    have V_bn_14 : own_Arr Z T11.heap bn (.object "java/lang/String") vs := (own_Arr.keep V_bn K11q (ninS (Ne.symm ne5) nin0))
    refine own_aaload X12 hx hZ e12 V_bn_14 rfl (v := .null) (own_slot ks cc) hJi hv (hb hby d8_11) ?_
    show own_Go p e below _ T12 (mkF m 12 #[.val (.ref a1), .val (.ref a2), .val (.int (Int32.ofNat (own_slot ks cc)))] [.null])
    refine own_by (fun t_ k_ => XT.ifnonnullNo X12.here hx rfl (hb hby d8_12) rfl k_) ?_
    show own_Go p e below _ T12 (mkF m 15 #[.val (.ref a1), .val (.ref a2), .val (.int (Int32.ofNat (own_slot ks cc)))] [])
    refine own_by (fun t_ k_ => XS.iconst X12.here hx rfl (hb hby d8_15) k_) ?_
    show own_Go p e below _ T12 (mkF m 16 #[.val (.ref a1), .val (.ref a2), .val (.int (Int32.ofNat (own_slot ks cc)))] [(.int (2 : Int32))])
    refine own_by (fun t_ k_ => XS.aloadN X12.here hx rfl (hb hby d8_16) rfl rfl k_) ?_
    show own_Go p e below _ T12 (mkF m 17 #[.val (.ref a1), .val (.ref a2), .val (.int (Int32.ofNat (own_slot ks cc)))] [(.ref a1), (.int (2 : Int32))])
    have F_size_16 : Fld Z T11.heap a1 "com/example/hedgewalk/hedgewalk/input/ChildCounts" "size" "I" (.int (Int32.ofNat k)) := (Fld.keep F_size K11q (ninS ne1 nin0))
    refine own_getF X12 hx hZ hown (own_w hw 73 rfl) Via.refl e12 F_size_16 (hb hby d8_17) ?_
    intro T15 X15 e15
    show own_Go p e below _ T15 (mkF m 20 #[.val (.ref a1), .val (.ref a2), .val (.int (Int32.ofNat (own_slot ks cc)))] [(.int (Int32.ofNat k)), (.int (2 : Int32))])
    refine own_by (fun t_ k_ => XS.iconst X15.here hx rfl (hb hby d8_20) k_) ?_
    show own_Go p e below _ T15 (mkF m 21 #[.val (.ref a1), .val (.ref a2), .val (.int (Int32.ofNat (own_slot ks cc)))] [(.int (1 : Int32)), (.int (Int32.ofNat k)), (.int (2 : Int32))])
    refine own_by (fun t_ k_ => XS.iadd X15.here hx rfl (hb hby d8_21) rfl k_) ?_
    show own_Go p e below _ T15 (mkF m 22 #[.val (.ref a1), .val (.ref a2), .val (.int (Int32.ofNat (own_slot ks cc)))] [(.int ((Int32.ofNat k) + (1 : Int32))), (.int (2 : Int32))])
    refine own_by (fun t_ k_ => XS.imul X15.here hx rfl (hb hby d8_22) rfl k_) ?_
    show own_Go p e below _ T15 (mkF m 23 #[.val (.ref a1), .val (.ref a2), .val (.int (Int32.ofNat (own_slot ks cc)))] [(.int ((2 : Int32) * ((Int32.ofNat k) + (1 : Int32))))])
    refine own_by (fun t_ k_ => XS.aloadN X15.here hx rfl (hb hby d8_23) rfl rfl k_) ?_
    show own_Go p e below _ T15 (mkF m 24 #[.val (.ref a1), .val (.ref a2), .val (.int (Int32.ofNat (own_slot ks cc)))] [(.ref a1), (.int ((2 : Int32) * ((Int32.ofNat k) + (1 : Int32))))])
    refine own_getF X15 hx hZ hown (own_w hw 39 rfl) Via.refl e15 F_names_13 (hb hby d8_24) ?_
    intro T17 X17 e17
    show own_Go p e below _ T17 (mkF m 27 #[.val (.ref a1), .val (.ref a2), .val (.int (Int32.ofNat (own_slot ks cc)))] [(.ref bn), (.int ((2 : Int32) * ((Int32.ofNat k) + (1 : Int32))))])
    refine own_alen X17 hx hZ e17 V_bn_14 (hb hby d8_27) ?_
    show own_Go p e below _ T17 (mkF m 28 #[.val (.ref a1), .val (.ref a2), .val (.int (Int32.ofNat (own_slot ks cc)))] [(.int (vs).length.toInt32), (.int ((2 : Int32) * ((Int32.ofNat k) + (1 : Int32))))])
    refine own_icmp X17 hx 41 (hb hby d8_28) (by decide) (by decide) (fun (hc28 : ¬ (vs).length.toInt32 < ((2 : Int32) * ((Int32.ofNat k) + (1 : Int32)))) => ?_) (fun (hc28 : (vs).length.toInt32 < ((2 : Int32) * ((Int32.ofNat k) + (1 : Int32)))) => ?_)
    · have hfit : ¬ vs.length < 2 * (k + 1) := fun q => hc28 ((own_fit (by omega) V_bn.len).mpr q)
      show own_Go p e below _ T17 (mkF m 41 #[.val (.ref a1), .val (.ref a2), .val (.int (Int32.ofNat (own_slot ks cc)))] [])
      refine own_by (fun t_ k_ => XS.aloadN X17.here hx rfl (hb hby d8_41) rfl rfl k_) ?_
      show own_Go p e below _ T17 (mkF m 42 #[.val (.ref a1), .val (.ref a2), .val (.int (Int32.ofNat (own_slot ks cc)))] [(.ref a1)])
      refine own_getF X17 hx hZ hown (own_w hw 39 rfl) Via.refl e17 F_names_13 (hb hby d8_42) ?_
      intro T18 X18 e18
      show own_Go p e below _ T18 (mkF m 45 #[.val (.ref a1), .val (.ref a2), .val (.int (Int32.ofNat (own_slot ks cc)))] [(.ref bn)])
      refine own_by (fun t_ k_ => XS.iloadN X18.here hx rfl (hb hby d8_45) rfl k_) ?_
      show own_Go p e below _ T18 (mkF m 46 #[.val (.ref a1), .val (.ref a2), .val (.int (Int32.ofNat (own_slot ks cc)))] [(.int (Int32.ofNat (own_slot ks cc))), (.ref bn)])
      refine own_by (fun t_ k_ => XS.aloadN X18.here hx rfl (hb hby d8_46) rfl rfl k_) ?_
      show own_Go p e below _ T18 (mkF m 47 #[.val (.ref a1), .val (.ref a2), .val (.int (Int32.ofNat (own_slot ks cc)))] [(.ref a2), (.int (Int32.ofNat (own_slot ks cc))), (.ref bn)])
      have O_bn_20 : own_Ovr Z T11.heap bn "java/lang/String" := (own_Ovr.keep O_bn K11q)
      have E_a2_21 : Exa Z T11.heap a2 "java/lang/String" := (Exa.keep E_a2 K11q)
      refine own_aastore X18 hx hZ e18 V_bn_14 rfl (own_Ovr.sto O_bn_20 (Ins.self E_a2_21)) rfl (own_slot ks cc) hJi (by omega) (hb hby d8_47) ?_
      intro T19 h19 X19 e19 W19 A19
      have V19_0 : own_Arr Z h19 bn (.object "java/lang/String") (vs.set (own_slot ks cc) (.ref a2)) := A19
      have N19 := Fr.snoc X19 N11 g_bn
      have sz19 : n0 ≤ h19.size := Nat.le_trans sz11 (Keep.of_wr W19).1
      show own_Go p e below _ T19 (mkF m 48 #[.val (.ref a1), .val (.ref a2), .val (.int (Int32.ofNat (own_slot ks cc)))] [])
      refine own_by (fun t_ k_ => XS.aloadN X19.here hx rfl (hb hby d8_48) rfl rfl k_) ?_
      show own_Go p e below _ T19 (mkF m 49 #[.val (.ref a1), .val (.ref a2), .val (.int (Int32.ofNat (own_slot ks cc)))] [(.ref a1)])
      have F_counts_23 : Fld Z h19 a1 "com/example/hedgewalk/hedgewalk/input/ChildCounts" "counts" "[J" (.ref bc) := (Fld.other W19 (Fld.keep F_counts K11q (ninS ne1 nin0)) (Or.inl ne2))
      refine own_getF X19 hx hZ hown (own_w hw 42 rfl) Via.refl e19 F_counts_23 (hb hby d8_49) ?_
      intro T22 X22 e22
      show own_Go p e below _ T22 (mkF m 52 #[.val (.ref a1), .val (.ref a2), .val (.int (Int32.ofNat (own_slot ks cc)))] [(.ref bc)])
      refine own_by (fun t_ k_ => XS.iloadN X22.here hx rfl (hb hby d8_52) rfl k_) ?_
      show own_Go p e below _ T22 (mkF m 53 #[.val (.ref a1), .val (.ref a2), .val (.int (Int32.ofNat (own_slot ks cc)))] [(.int (Int32.ofNat (own_slot ks cc))), (.ref bc)])
      refine own_by (fun t_ k_ => XT.lconst X22.here hx rfl (hb hby d8_53) k_) ?_
      show own_Go p e below _ T22 (mkF m 54 #[.val (.ref a1), .val (.ref a2), .val (.int (Int32.ofNat (own_slot ks cc)))] [(.long (0 : Int64)), (.int (Int32.ofNat (own_slot ks cc))), (.ref bc)])
      have V_bc_25 : own_Arr Z h19 bc .long (ct.map Value.long) := (own_Arr.other (own_Arr.keep V_bc K11q (ninS (Ne.symm ne6) nin0)) W19 (Ne.symm ne8))
      refine own_lastore X22 hx hZ e22 V_bc_25 (own_slot ks cc) hJi (by simp only [List.length_set, List.length_map]; omega) (hb hby d8_54) ?_
      intro T24 h24 X24 e24 W24 A24
      have V24_0 : own_Arr Z h24 bc .long ((ct.map Value.long).set (own_slot ks cc) (.long (0 : Int64))) := A24
      have N24 := Fr.snoc X24 N19 g_bc
      have sz24 : n0 ≤ h24.size := Nat.le_trans sz19 (Keep.of_wr W24).1
      show own_Go p e below _ T24 (mkF m 55 #[.val (.ref a1), .val (.ref a2), .val (.int (Int32.ofNat (own_slot ks cc)))] [])
      refine own_by (fun t_ k_ => XS.aloadN X24.here hx rfl (hb hby d8_55) rfl rfl k_) ?_
      show own_Go p e below _ T24 (mkF m 56 #[.val (.ref a1), .val (.ref a2), .val (.int (Int32.ofNat (own_slot ks cc)))] [(.ref a1)])
      have F_used_27 : Fld Z h24 a1 "com/example/hedgewalk/hedgewalk/input/ChildCounts" "used" "[I" (.ref bu) := (Fld.other W24 (Fld.other W19 (Fld.keep F_used K11q (ninS ne1 nin0)) (Or.inl ne2)) (Or.inl ne3))
      refine own_getF X24 hx hZ hown (own_w hw 45 rfl) Via.refl e24 F_used_27 (hb hby d8_56) ?_
      intro T26 X26 e26
      show own_Go p e below _ T26 (mkF m 59 #[.val (.ref a1), .val (.ref a2), .val (.int (Int32.ofNat (own_slot ks cc)))] [(.ref bu)])
      refine own_by (fun t_ k_ => XS.aloadN X26.here hx rfl (hb hby d8_59) rfl rfl k_) ?_
      show own_Go p e below _ T26 (mkF m 60 #[.val (.ref a1), .val (.ref a2), .val (.int (Int32.ofNat (own_slot ks cc)))] [(.ref a1), (.ref bu)])
      refine own_by (fun t_ k_ => XS.dup X26.here hx rfl (hb hby d8_60) rfl rfl k_) ?_
      show own_Go p e below _ T26 (mkF m 61 #[.val (.ref a1), .val (.ref a2), .val (.int (Int32.ofNat (own_slot ks cc)))] [(.ref a1), (.ref a1), (.ref bu)])
      have F_size_29 : Fld Z h24 a1 "com/example/hedgewalk/hedgewalk/input/ChildCounts" "size" "I" (.int (Int32.ofNat k)) := (Fld.other W24 (Fld.other W19 F_size_16 (Or.inl ne2)) (Or.inl ne3))
      refine own_getF X26 hx hZ hown (own_w hw 73 rfl) Via.refl e26 F_size_29 (hb hby d8_61) ?_
      intro T28 X28 e28
      show own_Go p e below _ T28 (mkF m 64 #[.val (.ref a1), .val (.ref a2), .val (.int (Int32.ofNat (own_slot ks cc)))] [(.int (Int32.ofNat k)), (.ref a1), (.ref bu)])
      refine own_by (fun t_ k_ => XT.dupX1 X28.here hx rfl (hb hby d8_64) rfl rfl rfl k_) ?_
      show own_Go p e below _ T28 (mkF m 65 #[.val (.ref a1), .val (.ref a2), .val (.int (Int32.ofNat (own_slot ks cc)))] [(.int (Int32.ofNat k)), (.ref a1), (.int (Int32.ofNat k)), (.ref bu)])
      refine own_by (fun t_ k_ => XS.iconst X28.here hx rfl (hb hby d8_65) k_) ?_
      show own_Go p e below _ T28 (mkF m 66 #[.val (.ref a1), .val (.ref a2), .val (.int (Int32.ofNat (own_slot ks cc)))] [(.int (1 : Int32)), (.int (Int32.ofNat k)), (.ref a1), (.int (Int32.ofNat k)), (.ref bu)])
      refine own_by (fun t_ k_ => XS.iadd X28.here hx rfl (hb hby d8_66) rfl k_) ?_
      show own_Go p e below _ T28 (mkF m 67 #[.val (.ref a1), .val (.ref a2), .val (.int (Int32.ofNat (own_slot ks cc)))] [(.int ((Int32.ofNat k) + (1 : Int32))), (.ref a1), (.int (Int32.ofNat k)), (.ref bu)])
      have E_a1_31 : Exa Z h24 a1 "com/example/hedgewalk/hedgewalk/input/ChildCounts" := (Exa.wr W24 (Exa.wr W19 (Exa.keep E_a1 K11q)))
      refine own_putF X28 hx hZ hown (own_w hw 73 rfl) Via.refl e28 F_size_29 E_a1_31 (Or.inl (own_w hw 74 rfl)) (own_w hw 31 rfl) (ty := .int) (by decide) rfl rfl (hb hby d8_67) ?_
      intro T30 h30 X30 e30 W30
      have F30 := Fld.same W30 F_size_29
      have N30 := Fr.snoc X30 N24 g_a1
      have sz30 : n0 ≤ h30.size := Nat.le_trans sz24 (Keep.of_wr W30).1
      show own_Go p e below _ T30 (mkF m 70 #[.val (.ref a1), .val (.ref a2), .val (.int (Int32.ofNat (own_slot ks cc)))] [(.int (Int32.ofNat k)), (.ref bu)])
      refine own_by (fun t_ k_ => XS.iloadN X30.here hx rfl (hb hby d8_70) rfl k_) ?_
      show own_Go p e below _ T30 (mkF m 71 #[.val (.ref a1), .val (.ref a2), .val (.int (Int32.ofNat (own_slot ks cc)))] [(.int (Int32.ofNat (own_slot ks cc))), (.int (Int32.ofNat k)), (.ref bu)])
      have V_bu_33 : own_Arr Z h30 bu .int (un.map Value.int) := (own_Arr.other (own_Arr.other (own_Arr.other (own_Arr.keep V_bu K11q (ninS (Ne.symm ne7) nin0)) W19 (Ne.symm ne9)) W24 (Ne.symm ne10)) W30 (Ne.symm ne4))
      refine own_iastore X30 hx hZ e30 V_bu_33 k (own_ofi (by omega)) (by simp only [List.length_set, List.length_map]; omega) (hb hby d8_71) ?_
      intro T32 h32 X32 e32 W32 A32
      have V32_0 : own_Arr Z h32 bu .int ((un.map Value.int).set k (.int (Int32.ofNat (own_slot ks cc)))) := A32
      have N32 := Fr.snoc X32 N30 g_bu
      have sz32 : n0 ≤ h32.size := Nat.le_trans sz30 (Keep.of_wr W32).1
      show own_Go p e below _ T32 (mkF m 72 #[.val (.ref a1), .val (.ref a2), .val (.int (Int32.ofNat (own_slot ks cc)))] [])
      refine own_by (fun t_ k_ => XS.aloadN X32.here hx rfl (hb hby d8_72) rfl rfl k_) ?_
      show own_Go p e below _ T32 (mkF m 73 #[.val (.ref a1), .val (.ref a2), .val (.int (Int32.ofNat (own_slot ks cc)))] [(.ref a1)])
      have F_counts_35 : Fld Z h32 a1 "com/example/hedgewalk/hedgewalk/input/ChildCounts" "counts" "[J" (.ref bc) := (Fld.other W32 (Fld.other W30 (Fld.other W24 F_counts_23 (Or.inl ne3)) (Or.inr (slot_ne (Or.inl (own_w hw 43 rfl)) (Or.inl (own_w hw 74 rfl)) (by decide) (t := (.array .long)) (t' := .int) (by decide) (by decide)))) (Or.inl ne4))
      refine own_getF X32 hx hZ hown (own_w hw 42 rfl) Via.refl e32 F_counts_35 (hb hby d8_73) ?_
      intro T34 X34 e34
      show own_Go p e below _ T34 (mkF m 76 #[.val (.ref a1), .val (.ref a2), .val (.int (Int32.ofNat (own_slot ks cc)))] [(.ref bc)])
      refine own_by (fun t_ k_ => XS.iloadN X34.here hx rfl (hb hby d8_76) rfl k_) ?_
      show own_Go p e below _ T34 (mkF m 77 #[.val (.ref a1), .val (.ref a2), .val (.int (Int32.ofNat (own_slot ks cc)))] [(.int (Int32.ofNat (own_slot ks cc))), (.ref bc)])
      refine own_by (fun t_ k_ => XT.dup2 X34.here hx rfl (hb hby d8_77) rfl rfl rfl k_) ?_
      show own_Go p e below _ T34 (mkF m 78 #[.val (.ref a1), .val (.ref a2), .val (.int (Int32.ofNat (own_slot ks cc)))] [(.int (Int32.ofNat (own_slot ks cc))), (.ref bc), (.int (Int32.ofNat (own_slot ks cc))), (.ref bc)])
      have V24_36 : own_Arr Z h32 bc .long ((ct.map Value.long).set (own_slot ks cc) (.long (0 : Int64))) := (own_Arr.other (own_Arr.other V24_0 W30 (Ne.symm ne3)) W32 ne10)
      refine own_laload X34 hx hZ e34 V24_36 (v := (.long (0 : Int64))) (own_slot ks cc) hJi (own_ctw (by omega)) (hb hby d8_78) ?_
      show own_Go p e below _ T34 (mkF m 79 #[.val (.ref a1), .val (.ref a2), .val (.int (Int32.ofNat (own_slot ks cc)))] [(.long (0 : Int64)), (.int (Int32.ofNat (own_slot ks cc))), (.ref bc)])
      refine own_by (fun t_ k_ => XT.lconst X34.here hx rfl (hb hby d8_79) k_) ?_
      show own_Go p e below _ T34 (mkF m 80 #[.val (.ref a1), .val (.ref a2), .val (.int (Int32.ofNat (own_slot ks cc)))] [(.long (1 : Int64)), (.long (0 : Int64)), (.int (Int32.ofNat (own_slot ks cc))), (.ref bc)])
      refine own_by (fun t_ k_ => XT.ladd X34.here hx rfl (hb hby d8_80) rfl k_) ?_
      show own_Go p e below _ T34 (mkF m 81 #[.val (.ref a1), .val (.ref a2), .val (.int (Int32.ofNat (own_slot ks cc)))] [(.long (1 : Int64)), (.int (Int32.ofNat (own_slot ks cc))), (.ref bc)])
      refine own_dup2x2 X34 hx rfl rfl (hb hby d8_81) ?_
      show own_Go p e below _ T34 (mkF m 82 #[.val (.ref a1), .val (.ref a2), .val (.int (Int32.ofNat (own_slot ks cc)))] [(.long (1 : Int64)), (.int (Int32.ofNat (own_slot ks cc))), (.ref bc), (.long (1 : Int64))])
      refine own_lastore X34 hx hZ e34 V24_36 (own_slot ks cc) hJi (by simp only [List.length_set, List.length_map]; omega) (hb hby d8_82) ?_
      intro T37 h37 X37 e37 W37 A37
      have V37_0 : own_Arr Z h37 bc .long (((ct.map Value.long).set (own_slot ks cc) (.long (0 : Int64))).set (own_slot ks cc) (.long (1 : Int64))) := A37
      have N37 := Fr.snoc X37 N32 g_bc
      have sz37 : n0 ≤ h37.size := Nat.le_trans sz32 (Keep.of_wr W37).1
      show own_Go p e below _ T37 (mkF m 83 #[.val (.ref a1), .val (.ref a2), .val (.int (Int32.ofNat (own_slot ks cc)))] [(.long (1 : Int64))])
      refine own_retJ X37 hx hlk Bd.returns (hb hby d8_83) e37 (by decide) (by decide) ?_
      have E_a1_38 : Exa Z h37 a1 "com/example/hedgewalk/hedgewalk/input/ChildCounts" := (Exa.wr W37 (Exa.wr W32 (Exa.wr W30 E_a1_31)))
      have F_names_39 : Fld Z h37 a1 "com/example/hedgewalk/hedgewalk/input/ChildCounts" "names" "[Ljava/lang/String;" (.ref bn) := (Fld.other W37 (Fld.other W32 (Fld.other W30 (Fld.other W24 (Fld.other W19 F_names_13 (Or.inl ne2)) (Or.inl ne3)) (Or.inr (slot_ne (Or.inl (own_w hw 40 rfl)) (Or.inl (own_w hw 74 rfl)) (by decide) (t := (.array (.object "java/lang/String"))) (t' := .int) (by decide) (by decide)))) (Or.inl ne4)) (Or.inl ne3))
      have F_counts_40 : Fld Z h37 a1 "com/example/hedgewalk/hedgewalk/input/ChildCounts" "counts" "[J" (.ref bc) := (Fld.other W37 F_counts_35 (Or.inl ne3))
      have F_used_41 : Fld Z h37 a1 "com/example/hedgewalk/hedgewalk/input/ChildCounts" "used" "[I" (.ref bu) := (Fld.other W37 (Fld.other W32 (Fld.other W30 F_used_27 (Or.inr (slot_ne (Or.inl (own_w hw 46 rfl)) (Or.inl (own_w hw 74 rfl)) (by decide) (t := (.array .int)) (t' := .int) (by decide) (by decide)))) (Or.inl ne4)) (Or.inl ne3))
      have F30_42 : Fld Z h37 a1 "com/example/hedgewalk/hedgewalk/input/ChildCounts" "size" "I" (.int ((Int32.ofNat k) + (1 : Int32))) := (Fld.other W37 (Fld.other W32 F30 (Or.inl ne4)) (Or.inl ne3))
      have V19_43 : own_Arr Z h37 bn (.object "java/lang/String") (vs.set (own_slot ks cc) (.ref a2)) := (own_Arr.other (own_Arr.other (own_Arr.other (own_Arr.other V19_0 W24 ne8) W30 (Ne.symm ne2)) W32 ne9) W37 ne8)
      have O_bn_44 : own_Ovr Z h37 bn "java/lang/String" := (own_Ovr.wr (own_Ovr.wr (own_Ovr.wr (own_Ovr.wr (own_Ovr.wr O_bn_20 W19) W24) W30) W32) W37)
      have V32_45 : own_Arr Z h37 bu .int ((un.map Value.int).set k (.int (Int32.ofNat (own_slot ks cc)))) := (own_Arr.other V32_0 W37 (Ne.symm ne10))
      have S_cs_46 : Sta Z h37 "java/lang/String" "COMPACT_STRINGS" "Z" (.int cs) := (Sta.wr W37 (Sta.wr W32 (Sta.wr W30 (Sta.wr W24 (Sta.wr W19 (own_Sta_keep S_cs K11q (nsS (Exa.nostat E_a2) ns0)))))))
      have M11_47 : own_Strs Z h37 n0 S := (own_Strs.wrA (own_Strs.wrA (own_Strs.wrE (own_Strs.wrA (own_Strs.wrA M11 W19 V_bn_14 (by decide) (own_w hw 14 rfl)) W24 V_bc_25 (by decide) (own_w hw 14 rfl)) W30 E_a1_31 (own_w hw 31 rfl)) W32 V_bu_33 (by decide) (own_w hw 14 rfl)) W37 V24_36 (by decide) (own_w hw 14 rfl))
      exact ⟨bn, bc, bu, _, ks.set (own_slot ks cc) (some cc), ct.set (own_slot ks cc) 1, un.set k (Int32.ofNat (own_slot ks cc)), k + 1, _, rfl, N37, S_cs_46, M11_47, ⟨⟨E_a1_38, F_names_39, F_counts_40, F_used_41, (by rw [← own_ofs]; exact F30_42), V19_43, O_bn_44, own_Arr.cast V37_0 own_ct2, own_Arr.cast V32_45 own_un1, g_a1, g_bn, g_bc, g_bu⟩, HR.put hJ hm, HI.put hJ (by omega), by rw [List.length_set, List.length_set]; exact hct⟩⟩
    · show own_Go p e below _ T17 (mkF m 31 #[.val (.ref a1), .val (.ref a2), .val (.int (Int32.ofNat (own_slot ks cc)))] [])
      refine own_by (fun t_ k_ => XS.aloadN X17.here hx rfl (hb hby d8_31) rfl rfl k_) ?_
      show own_Go p e below _ T17 (mkF m 32 #[.val (.ref a1), .val (.ref a2), .val (.int (Int32.ofNat (own_slot ks cc)))] [(.ref a1)])
      have hfit : vs.length < 2 * (k + 1) := (own_fit (by omega) V_bn.len).mp hc28
      have E_a1_48 : Exa Z T11.heap a1 "com/example/hedgewalk/hedgewalk/input/ChildCounts" := (Exa.keep E_a1 K11q)
      have F_counts_49 : Fld Z T11.heap a1 "com/example/hedgewalk/hedgewalk/input/ChildCounts" "counts" "[J" (.ref bc) := (Fld.keep F_counts K11q (ninS ne1 nin0))
      have F_used_50 : Fld Z T11.heap a1 "com/example/hedgewalk/hedgewalk/input/ChildCounts" "used" "[I" (.ref bu) := (Fld.keep F_used K11q (ninS ne1 nin0))
      have O_bn_51 : own_Ovr Z T11.heap bn "java/lang/String" := (own_Ovr.keep O_bn K11q)
      have V_bc_52 : own_Arr Z T11.heap bc .long (ct.map Value.long) := (own_Arr.keep V_bc K11q (ninS (Ne.symm ne6) nin0))
      have V_bu_53 : own_Arr Z T11.heap bu .int (un.map Value.int) := (own_Arr.keep V_bu K11q (ninS (Ne.symm ne7) nin0))
      have S_cs_54 : Sta Z T11.heap "java/lang/String" "COMPACT_STRINGS" "Z" (.int cs) := (own_Sta_keep S_cs K11q (nsS (Exa.nostat E_a2) ns0))
      have HT55 : own_Tab Z T11.heap n0 a1 bn bc bu vs ks ct un k S := ⟨⟨E_a1_48, F_names_13, F_counts_49, F_used_50, F_size_16, V_bn_14, O_bn_51, V_bc_52, V_bu_53, g_a1, g_bn, g_bc, g_bu⟩, HR, HI, hct⟩
      refine own_callP (W := 0) X17 hx hZ (y := (⟨"com/example/hedgewalk/hedgewalk/input/ChildCounts", "grow", "()V"⟩ : MethodName)) hown (own_w hw 92 rfl) (own_w hw 93 rfl) (own_w hw 31 rfl) (own_w hw 94 rfl) (own_w hw 32 rfl) (own_w hw 95 rfl) (by decide) (by rw [hml]; rfl) (argsL := []) pd_5 rfl (a := a1) e17 E_a1_48 (rm17 l Z a0 hw [] a1 bn bc bu vs ks ct un k S cs T11.heap n0 sz11 S_cs_54 hcs M11 HT55 (by omega)) (by decide) (by decide) (Nat.le_of_eq rfl) (by decide) (by decide) (rest := []) rfl (hb hby d8_32) ?_
      intro v56 T56 L56 X56 hQ56
      obtain ⟨bN, bC, bU, vs', ks', ct', un', rfl, N56q, C56, M56, ⟨⟨E_a1', F_names', F_counts', F_used', F_size', V_bn', O_bn', V_bc', V_bu', g_a1', g_bN, g_bC, g_bU⟩, HR', HI', hct'⟩, h16⟩ := hQ56
      have N56 := Fr.app N11 N56q
      have sz56 : n0 ≤ T56.heap.size := Nat.le_of_lt (Nat.lt_of_le_of_lt g_bN V_bn'.lt)
      have HN2' : own_Nm Z T56.heap a2 cc := (M56 _ hm).1
      have E_a2' := HN2'.exa
      have hu' := HI'.2.1
      have hku' := HI'.2.2.1
      have hl' := HR'.1
      have S56 : Sta Z T56.heap "java/lang/String" "COMPACT_STRINGS" "Z" (.int cs) := C56
      have ne57 : a1 ≠ bN := own_exa_arr E_a1' (own_w hw 31 rfl) V_bn'
      have ne58 : a1 ≠ bC := own_exa_arr E_a1' (own_w hw 31 rfl) V_bc'
      have ne59 : a1 ≠ bU := own_exa_arr E_a1' (own_w hw 31 rfl) V_bu'
      have ne60 : a2 ≠ bN := own_exa_arr E_a2' (own_w hw 14 rfl) V_bn'
      have ne61 : a2 ≠ bC := own_exa_arr E_a2' (own_w hw 14 rfl) V_bc'
      have ne62 : a2 ≠ bU := own_exa_arr E_a2' (own_w hw 14 rfl) V_bu'
      have ne63 : bN ≠ bC := own_Arr.ne V_bn' V_bc' (by decide)
      have ne64 : bN ≠ bU := own_Arr.ne V_bn' V_bu' (by decide)
      have ne65 : bC ≠ bU := own_Arr.ne V_bc' V_bu' (by decide)
      show own_Go p e below _ T56 (mkF m 35 #[.val (.ref a1), .val (.ref a2), .val (.int (Int32.ofNat (own_slot ks cc)))] [])
      refine own_by (fun t_ k_ => XS.aloadN X56.here hx rfl (hb hby d8_35) rfl rfl k_) ?_
      show own_Go p e below _ T56 (mkF m 36 #[.val (.ref a1), .val (.ref a2), .val (.int (Int32.ofNat (own_slot ks cc)))] [(.ref a1)])
      refine own_by (fun t_ k_ => XS.aloadN X56.here hx rfl (hb hby d8_36) rfl rfl k_) ?_
      show own_Go p e below _ T56 (mkF m 37 #[.val (.ref a1), .val (.ref a2), .val (.int (Int32.ofNat (own_slot ks cc)))] [(.ref a2), (.ref a1)])
      refine own_callP (W := 0) X56 hx hZ (y := (⟨"com/example/hedgewalk/hedgewalk/input/ChildCounts", "slotOf", "(Ljava/lang/String;)I"⟩ : MethodName)) hown (own_w hw 52 rfl) (own_w hw 53 rfl) (own_w hw 31 rfl) (own_w hw 54 rfl) (own_w hw 32 rfl) (own_w hw 55 rfl) (by decide) (by rw [hml]; rfl) (argsL := [(.ref a2)]) pd_7 rfl (a := a1) rfl E_a1' (rm9 l Z a0 hw [] a1 a2 bN vs' ks' S cs cc T56.heap n0 sz56 S56 hcs M56 hm HR' HI'.1 HI'.free E_a1' F_names' V_bn') (by decide) (by decide) (Nat.le_of_eq rfl) (by decide) (by decide) (rest := []) rfl (hb hby d8_37) ?_
      intro v66 T66 L66 X66 hQ66
      obtain ⟨rfl, N66q, K66q, M66⟩ := hQ66
      have N66 := Fr.app N56 N66q
      have sz66 : n0 ≤ T66.heap.size := Nat.le_trans sz56 K66q.1
      show own_Go p e below _ T66 (mkF m 40 #[.val (.ref a1), .val (.ref a2), .val (.int (Int32.ofNat (own_slot ks cc)))] [(.int (Int32.ofNat (own_slot ks' cc)))])
      refine own_by (fun t_ k_ => XS.istoreN X66.here hx rfl (hb hby d8_40) rfl (l' := #[.val (.ref a1), .val (.ref a2), .val (.int (Int32.ofNat (own_slot ks' cc)))]) rfl k_) ?_
      obtain ⟨hJ2, hJ2'⟩ := own_slot_spec HI'.free cc
      have hJi2 : (Int32.ofNat (own_slot ks' cc)).toInt = ((own_slot ks' cc : Nat) : Int) := own_ofi (by omega)
      show own_Go p e below _ T66 (mkF m 41 #[.val (.ref a1), .val (.ref a2), .val (.int (Int32.ofNat (own_slot ks' cc)))] [])
      refine own_by (fun t_ k_ => XS.aloadN X66.here hx rfl (hb hby d8_41) rfl rfl k_) ?_
      show own_Go p e below _ T66 (mkF m 42 #[.val (.ref a1), .val (.ref a2), .val (.int (Int32.ofNat (own_slot ks' cc)))] [(.ref a1)])
      have F_names'_68 : Fld Z T66.heap a1 "com/example/hedgewalk/hedgewalk/input/ChildCounts" "names" "[Ljava/lang/String;" (.ref bN) := (Fld.keep F_names' K66q (ninS ne1 nin0))
      refine own_getF X66 hx hZ hown (own_w hw 39 rfl) Via.refl rfl F_names'_68 (hb hby d8_42) ?_
      intro T67 X67 e67
      show own_Go p e below _ T67 (mkF m 45 #[.val (.ref a1), .val (.ref a2), .val (.int (Int32.ofNat (own_slot ks' cc)))] [(.ref bN)])
      refine own_by (fun t_ k_ => XS.iloadN X67.here hx rfl (hb hby d8_45) rfl k_) ?_
      show own_Go p e below _ T67 (mkF m 46 #[.val (.ref a1), .val (.ref a2), .val (.int (Int32.ofNat (own_slot ks' cc)))] [(.int (Int32.ofNat (own_slot ks' cc))), (.ref bN)])
      refine own_by (fun t_ k_ => XS.aloadN X67.here hx rfl (hb hby d8_46) rfl rfl k_) ?_
      show own_Go p e below _ T67 (mkF m 47 #[.val (.ref a1), .val (.ref a2), .val (.int (Int32.ofNat (own_slot ks' cc)))] [(.ref a2), (.int (Int32.ofNat (own_slot ks' cc))), (.ref bN)])
      have V_bn'_70 : own_Arr Z T66.heap bN (.object "java/lang/String") vs' := (own_Arr.keep V_bn' K66q (ninS (Ne.symm ne60) nin0))
      have O_bn'_71 : own_Ovr Z T66.heap bN "java/lang/String" := (own_Ovr.keep O_bn' K66q)
      have E_a2'_72 : Exa Z T66.heap a2 "java/lang/String" := (Exa.keep E_a2' K66q)
      refine own_aastore X67 hx hZ e67 V_bn'_70 rfl (own_Ovr.sto O_bn'_71 (Ins.self E_a2'_72)) rfl (own_slot ks' cc) hJi2 (by omega) (hb hby d8_47) ?_
      intro T69 h69 X69 e69 W69 A69
      have V69_0 : own_Arr Z h69 bN (.object "java/lang/String") (vs'.set (own_slot ks' cc) (.ref a2)) := A69
      have N69 := Fr.snoc X69 N66 g_bN
      have sz69 : n0 ≤ h69.size := Nat.le_trans sz66 (Keep.of_wr W69).1
      show own_Go p e below _ T69 (mkF m 48 #[.val (.ref a1), .val (.ref a2), .val (.int (Int32.ofNat (own_slot ks' cc)))] [])
      refine own_by (fun t_ k_ => XS.aloadN X69.here hx rfl (hb hby d8_48) rfl rfl k_) ?_
      show own_Go p e below _ T69 (mkF m 49 #[.val (.ref a1), .val (.ref a2), .val (.int (Int32.ofNat (own_slot ks' cc)))] [(.ref a1)])
      have F_counts'_74 : Fld Z h69 a1 "com/example/hedgewalk/hedgewalk/input/ChildCounts" "counts" "[J" (.ref bC) := (Fld.other W69 (Fld.keep F_counts' K66q (ninS ne1 nin0)) (Or.inl ne57))
      refine own_getF X69 hx hZ hown (own_w hw 42 rfl) Via.refl e69 F_counts'_74 (hb hby d8_49) ?_
      intro T73 X73 e73
      show own_Go p e below _ T73 (mkF m 52 #[.val (.ref a1), .val (.ref a2), .val (.int (Int32.ofNat (own_slot ks' cc)))] [(.ref bC)])
      refine own_by (fun t_ k_ => XS.iloadN X73.here hx rfl (hb hby d8_52) rfl k_) ?_
      show own_Go p e below _ T73 (mkF m 53 #[.val (.ref a1), .val (.ref a2), .val (.int (Int32.ofNat (own_slot ks' cc)))] [(.int (Int32.ofNat (own_slot ks' cc))), (.ref bC)])
      refine own_by (fun t_ k_ => XT.lconst X73.here hx rfl (hb hby d8_53) k_) ?_
      show own_Go p e below _ T73 (mkF m 54 #[.val (.ref a1), .val (.ref a2), .val (.int (Int32.ofNat (own_slot ks' cc)))] [(.long (0 : Int64)), (.int (Int32.ofNat (own_slot ks' cc))), (.ref bC)])
      have V_bc'_76 : own_Arr Z h69 bC .long (ct'.map Value.long) := (own_Arr.other (own_Arr.keep V_bc' K66q (ninS (Ne.symm ne61) nin0)) W69 (Ne.symm ne63))
      refine own_lastore X73 hx hZ e73 V_bc'_76 (own_slot ks' cc) hJi2 (by simp only [List.length_set, List.length_map]; omega) (hb hby d8_54) ?_
      intro T75 h75 X75 e75 W75 A75
      have V75_0 : own_Arr Z h75 bC .long ((ct'.map Value.long).set (own_slot ks' cc) (.long (0 : Int64))) := A75
      have N75 := Fr.snoc X75 N69 g_bC
      have sz75 : n0 ≤ h75.size := Nat.le_trans sz69 (Keep.of_wr W75).1
      show own_Go p e below _ T75 (mkF m 55 #[.val (.ref a1), .val (.ref a2), .val (.int (Int32.ofNat (own_slot ks' cc)))] [])
      refine own_by (fun t_ k_ => XS.aloadN X75.here hx rfl (hb hby d8_55) rfl rfl k_) ?_
      show own_Go p e below _ T75 (mkF m 56 #[.val (.ref a1), .val (.ref a2), .val (.int (Int32.ofNat (own_slot ks' cc)))] [(.ref a1)])
      have F_used'_78 : Fld Z h75 a1 "com/example/hedgewalk/hedgewalk/input/ChildCounts" "used" "[I" (.ref bU) := (Fld.other W75 (Fld.other W69 (Fld.keep F_used' K66q (ninS ne1 nin0)) (Or.inl ne57)) (Or.inl ne58))
      refine own_getF X75 hx hZ hown (own_w hw 45 rfl) Via.refl e75 F_used'_78 (hb hby d8_56) ?_
      intro T77 X77 e77
      show own_Go p e below _ T77 (mkF m 59 #[.val (.ref a1), .val (.ref a2), .val (.int (Int32.ofNat (own_slot ks' cc)))] [(.ref bU)])
      refine own_by (fun t_ k_ => XS.aloadN X77.here hx rfl (hb hby d8_59) rfl rfl k_) ?_
      show own_Go p e below _ T77 (mkF m 60 #[.val (.ref a1), .val (.ref a2), .val (.int (Int32.ofNat (own_slot ks' cc)))] [(.ref a1), (.ref bU)])
      refine own_by (fun t_ k_ => XS.dup X77.here hx rfl (hb hby d8_60) rfl rfl k_) ?_
      show own_Go p e below _ T77 (mkF m 61 #[.val (.ref a1), .val (.ref a2), .val (.int (Int32.ofNat (own_slot ks' cc)))] [(.ref a1), (.ref a1), (.ref bU)])
      have F_size'_80 : Fld Z h75 a1 "com/example/hedgewalk/hedgewalk/input/ChildCounts" "size" "I" (.int (Int32.ofNat k)) := (Fld.other W75 (Fld.other W69 (Fld.keep F_size' K66q (ninS ne1 nin0)) (Or.inl ne57)) (Or.inl ne58))
      refine own_getF X77 hx hZ hown (own_w hw 73 rfl) Via.refl e77 F_size'_80 (hb hby d8_61) ?_
      intro T79 X79 e79
      show own_Go p e below _ T79 (mkF m 64 #[.val (.ref a1), .val (.ref a2), .val (.int (Int32.ofNat (own_slot ks' cc)))] [(.int (Int32.ofNat k)), (.ref a1), (.ref bU)])
      refine own_by (fun t_ k_ => XT.dupX1 X79.here hx rfl (hb hby d8_64) rfl rfl rfl k_) ?_
      show own_Go p e below _ T79 (mkF m 65 #[.val (.ref a1), .val (.ref a2), .val (.int (Int32.ofNat (own_slot ks' cc)))] [(.int (Int32.ofNat k)), (.ref a1), (.int (Int32.ofNat k)), (.ref bU)])
      refine own_by (fun t_ k_ => XS.iconst X79.here hx rfl (hb hby d8_65) k_) ?_
      show own_Go p e below _ T79 (mkF m 66 #[.val (.ref a1), .val (.ref a2), .val (.int (Int32.ofNat (own_slot ks' cc)))] [(.int (1 : Int32)), (.int (Int32.ofNat k)), (.ref a1), (.int (Int32.ofNat k)), (.ref bU)])
      refine own_by (fun t_ k_ => XS.iadd X79.here hx rfl (hb hby d8_66) rfl k_) ?_
      show own_Go p e below _ T79 (mkF m 67 #[.val (.ref a1), .val (.ref a2), .val (.int (Int32.ofNat (own_slot ks' cc)))] [(.int ((Int32.ofNat k) + (1 : Int32))), (.ref a1), (.int (Int32.ofNat k)), (.ref bU)])
      have E_a1'_82 : Exa Z h75 a1 "com/example/hedgewalk/hedgewalk/input/ChildCounts" := (Exa.wr W75 (Exa.wr W69 (Exa.keep E_a1' K66q)))
      refine own_putF X79 hx hZ hown (own_w hw 73 rfl) Via.refl e79 F_size'_80 E_a1'_82 (Or.inl (own_w hw 74 rfl)) (own_w hw 31 rfl) (ty := .int) (by decide) rfl rfl (hb hby d8_67) ?_
      intro T81 h81 X81 e81 W81
      have F81 := Fld.same W81 F_size'_80
      have N81 := Fr.snoc X81 N75 g_a1
      have sz81 : n0 ≤ h81.size := Nat.le_trans sz75 (Keep.of_wr W81).1
      show own_Go p e below _ T81 (mkF m 70 #[.val (.ref a1), .val (.ref a2), .val (.int (Int32.ofNat (own_slot ks' cc)))] [(.int (Int32.ofNat k)), (.ref bU)])
      refine own_by (fun t_ k_ => XS.iloadN X81.here hx rfl (hb hby d8_70) rfl k_) ?_
      show own_Go p e below _ T81 (mkF m 71 #[.val (.ref a1), .val (.ref a2), .val (.int (Int32.ofNat (own_slot ks' cc)))] [(.int (Int32.ofNat (own_slot ks' cc))), (.int (Int32.ofNat k)), (.ref bU)])
      have V_bu'_84 : own_Arr Z h81 bU .int (un'.map Value.int) := (own_Arr.other (own_Arr.other (own_Arr.other (own_Arr.keep V_bu' K66q (ninS (Ne.symm ne62) nin0)) W69 (Ne.symm ne64)) W75 (Ne.symm ne65)) W81 (Ne.symm ne59))
      refine own_iastore X81 hx hZ e81 V_bu'_84 k (own_ofi (by omega)) (by simp only [List.length_set, List.length_map]; omega) (hb hby d8_71) ?_
      intro T83 h83 X83 e83 W83 A83
      have V83_0 : own_Arr Z h83 bU .int ((un'.map Value.int).set k (.int (Int32.ofNat (own_slot ks' cc)))) := A83
      have N83 := Fr.snoc X83 N81 g_bU
      have sz83 : n0 ≤ h83.size := Nat.le_trans sz81 (Keep.of_wr W83).1
      show own_Go p e below _ T83 (mkF m 72 #[.val (.ref a1), .val (.ref a2), .val (.int (Int32.ofNat (own_slot ks' cc)))] [])
      refine own_by (fun t_ k_ => XS.aloadN X83.here hx rfl (hb hby d8_72) rfl rfl k_) ?_
      show own_Go p e below _ T83 (mkF m 73 #[.val (.ref a1), .val (.ref a2), .val (.int (Int32.ofNat (own_slot ks' cc)))] [(.ref a1)])
      have F_counts'_86 : Fld Z h83 a1 "com/example/hedgewalk/hedgewalk/input/ChildCounts" "counts" "[J" (.ref bC) := (Fld.other W83 (Fld.other W81 (Fld.other W75 F_counts'_74 (Or.inl ne58)) (Or.inr (slot_ne (Or.inl (own_w hw 43 rfl)) (Or.inl (own_w hw 74 rfl)) (by decide) (t := (.array .long)) (t' := .int) (by decide) (by decide)))) (Or.inl ne59))
      refine own_getF X83 hx hZ hown (own_w hw 42 rfl) Via.refl e83 F_counts'_86 (hb hby d8_73) ?_
      intro T85 X85 e85
      show own_Go p e below _ T85 (mkF m 76 #[.val (.ref a1), .val (.ref a2), .val (.int (Int32.ofNat (own_slot ks' cc)))] [(.ref bC)])
      refine own_by (fun t_ k_ => XS.iloadN X85.here hx rfl (hb hby d8_76) rfl k_) ?_
      show own_Go p e below _ T85 (mkF m 77 #[.val (.ref a1), .val (.ref a2), .val (.int (Int32.ofNat (own_slot ks' cc)))] [(.int (Int32.ofNat (own_slot ks' cc))), (.ref bC)])
      refine own_by (fun t_ k_ => XT.dup2 X85.here hx rfl (hb hby d8_77) rfl rfl rfl k_) ?_
      show own_Go p e below _ T85 (mkF m 78 #[.val (.ref a1), .val (.ref a2), .val (.int (Int32.ofNat (own_slot ks' cc)))] [(.int (Int32.ofNat (own_slot ks' cc))), (.ref bC), (.int (Int32.ofNat (own_slot ks' cc))), (.ref bC)])
      have V75_87 : own_Arr Z h83 bC .long ((ct'.map Value.long).set (own_slot ks' cc) (.long (0 : Int64))) := (own_Arr.other (own_Arr.other V75_0 W81 (Ne.symm ne58)) W83 ne65)
      refine own_laload X85 hx hZ e85 V75_87 (v := (.long (0 : Int64))) (own_slot ks' cc) hJi2 (own_ctw (by omega)) (hb hby d8_78) ?_
      show own_Go p e below _ T85 (mkF m 79 #[.val (.ref a1), .val (.ref a2), .val (.int (Int32.ofNat (own_slot ks' cc)))] [(.long (0 : Int64)), (.int (Int32.ofNat (own_slot ks' cc))), (.ref bC)])
      refine own_by (fun t_ k_ => XT.lconst X85.here hx rfl (hb hby d8_79) k_) ?_
      show own_Go p e below _ T85 (mkF m 80 #[.val (.ref a1), .val (.ref a2), .val (.int (Int32.ofNat (own_slot ks' cc)))] [(.long (1 : Int64)), (.long (0 : Int64)), (.int (Int32.ofNat (own_slot ks' cc))), (.ref bC)])
      refine own_by (fun t_ k_ => XT.ladd X85.here hx rfl (hb hby d8_80) rfl k_) ?_
      show own_Go p e below _ T85 (mkF m 81 #[.val (.ref a1), .val (.ref a2), .val (.int (Int32.ofNat (own_slot ks' cc)))] [(.long (1 : Int64)), (.int (Int32.ofNat (own_slot ks' cc))), (.ref bC)])
      refine own_dup2x2 X85 hx rfl rfl (hb hby d8_81) ?_
      show own_Go p e below _ T85 (mkF m 82 #[.val (.ref a1), .val (.ref a2), .val (.int (Int32.ofNat (own_slot ks' cc)))] [(.long (1 : Int64)), (.int (Int32.ofNat (own_slot ks' cc))), (.ref bC), (.long (1 : Int64))])
      refine own_lastore X85 hx hZ e85 V75_87 (own_slot ks' cc) hJi2 (by simp only [List.length_set, List.length_map]; omega) (hb hby d8_82) ?_
      intro T88 h88 X88 e88 W88 A88
      have V88_0 : own_Arr Z h88 bC .long (((ct'.map Value.long).set (own_slot ks' cc) (.long (0 : Int64))).set (own_slot ks' cc) (.long (1 : Int64))) := A88
      have N88 := Fr.snoc X88 N83 g_bC
      have sz88 : n0 ≤ h88.size := Nat.le_trans sz83 (Keep.of_wr W88).1
      show own_Go p e below _ T88 (mkF m 83 #[.val (.ref a1), .val (.ref a2), .val (.int (Int32.ofNat (own_slot ks' cc)))] [(.long (1 : Int64))])
      refine own_retJ X88 hx hlk Bd.returns (hb hby d8_83) e88 (by decide) (by decide) ?_
      have E_a1'_89 : Exa Z h88 a1 "com/example/hedgewalk/hedgewalk/input/ChildCounts" := (Exa.wr W88 (Exa.wr W83 (Exa.wr W81 E_a1'_82)))
      have F_names'_90 : Fld Z h88 a1 "com/example/hedgewalk/hedgewalk/input/ChildCounts" "names" "[Ljava/lang/String;" (.ref bN) := (Fld.other W88 (Fld.other W83 (Fld.other W81 (Fld.other W75 (Fld.other W69 F_names'_68 (Or.inl ne57)) (Or.inl ne58)) (Or.inr (slot_ne (Or.inl (own_w hw 40 rfl)) (Or.inl (own_w hw 74 rfl)) (by decide) (t := (.array (.object "java/lang/String"))) (t' := .int) (by decide) (by decide)))) (Or.inl ne59)) (Or.inl ne58))
      have F_counts'_91 : Fld Z h88 a1 "com/example/hedgewalk/hedgewalk/input/ChildCounts" "counts" "[J" (.ref bC) := (Fld.other W88 F_counts'_86 (Or.inl ne58))
      have F_used'_92 : Fld Z h88 a1 "com/example/hedgewalk/hedgewalk/input/ChildCounts" "used" "[I" (.ref bU) := (Fld.other W88 (Fld.other W83 (Fld.other W81 F_used'_78 (Or.inr (slot_ne (Or.inl (own_w hw 46 rfl)) (Or.inl (own_w hw 74 rfl)) (by decide) (t := (.array .int)) (t' := .int) (by decide) (by decide)))) (Or.inl ne59)) (Or.inl ne58))
      have F81_93 : Fld Z h88 a1 "com/example/hedgewalk/hedgewalk/input/ChildCounts" "size" "I" (.int ((Int32.ofNat k) + (1 : Int32))) := (Fld.other W88 (Fld.other W83 F81 (Or.inl ne59)) (Or.inl ne58))
      have V69_94 : own_Arr Z h88 bN (.object "java/lang/String") (vs'.set (own_slot ks' cc) (.ref a2)) := (own_Arr.other (own_Arr.other (own_Arr.other (own_Arr.other V69_0 W75 ne63) W81 (Ne.symm ne57)) W83 ne64) W88 ne63)
      have O_bn'_95 : own_Ovr Z h88 bN "java/lang/String" := (own_Ovr.wr (own_Ovr.wr (own_Ovr.wr (own_Ovr.wr (own_Ovr.wr O_bn'_71 W69) W75) W81) W83) W88)
      have V83_96 : own_Arr Z h88 bU .int ((un'.map Value.int).set k (.int (Int32.ofNat (own_slot ks' cc)))) := (own_Arr.other V83_0 W88 (Ne.symm ne65))
      have S56_97 : Sta Z h88 "java/lang/String" "COMPACT_STRINGS" "Z" (.int cs) := (Sta.wr W88 (Sta.wr W83 (Sta.wr W81 (Sta.wr W75 (Sta.wr W69 (own_Sta_keep S56 K66q (nsS (Exa.nostat E_a2') ns0)))))))
      have M66_98 : own_Strs Z h88 n0 S := (own_Strs.wrA (own_Strs.wrA (own_Strs.wrE (own_Strs.wrA (own_Strs.wrA M66 W69 V_bn'_70 (by decide) (own_w hw 14 rfl)) W75 V_bc'_76 (by decide) (own_w hw 14 rfl)) W81 E_a1'_82 (own_w hw 31 rfl)) W83 V_bu'_84 (by decide) (own_w hw 14 rfl)) W88 V75_87 (by decide) (own_w hw 14 rfl))
      exact ⟨bN, bC, bU, _, ks'.set (own_slot ks' cc) (some cc), ct'.set (own_slot ks' cc) 1, un'.set k (Int32.ofNat (own_slot ks' cc)), k + 1, _, rfl, N88, S56_97, M66_98, ⟨⟨E_a1'_89, F_names'_90, F_counts'_91, F_used'_92, (by rw [← own_ofs]; exact F81_93), V69_94, O_bn'_95, own_Arr.cast V88_0 own_ct2, own_Arr.cast V83_96 own_un1, g_a1, g_bN, g_bC, g_bU⟩, HR'.put hJ2 hm, HI'.put hJ2 (by omega), by rw [List.length_set, List.length_set]; exact hct'⟩⟩
  · obtain ⟨r, hv, -⟩ := HR.atS hk0
    show own_Go p e below _ T11 (mkF m 6 #[.val (.ref a1), .val (.ref a2), .val (.int (Int32.ofNat (own_slot ks cc)))] [])
    refine own_by (fun t_ k_ => XS.aloadN X11.here hx rfl (hb hby d8_6) rfl rfl k_) ?_
    show own_Go p e below _ T11 (mkF m 7 #[.val (.ref a1), .val (.ref a2), .val (.int (Int32.ofNat (own_slot ks cc)))] [(.ref a1)])
    have F_names_100 : Fld Z T11.heap a1 "com/example/hedgewalk/hedgewalk/input/ChildCounts" "names" "[Ljava/lang/String;" (.ref bn) := (Fld.keep F_names K11q (ninS ne1 nin0))
    refine own_getF X11 hx hZ hown (own_w hw 39 rfl) Via.refl rfl F_names_100 (hb hby d8_7) ?_
    intro T99 X99 e99
    show own_Go p e below _ T99 (mkF m 10 #[.val (.ref a1), .val (.ref a2), .val (.int (Int32.ofNat (own_slot ks cc)))] [(.ref bn)])
    refine own_by (fun t_ k_ => XS.iloadN X99.here hx rfl (hb hby d8_10) rfl k_) ?_
    show own_Go p e below _ T99 (mkF m 11 #[.val (.ref a1), .val (.ref a2), .val (.int (Int32.ofNat (own_slot ks cc)))] [(.int (Int32.ofNat (own_slot ks cc))), (.ref bn)])
    have V_bn_101 : own_Arr Z T11.heap bn (.object "java/lang/String") vs := (own_Arr.keep V_bn K11q (ninS (Ne.symm ne5) nin0))
    refine own_aaload X99 hx hZ e99 V_bn_101 rfl (v := (.ref r)) (own_slot ks cc) hJi hv (hb hby d8_11) ?_
    show own_Go p e below _ T99 (mkF m 12 #[.val (.ref a1), .val (.ref a2), .val (.int (Int32.ofNat (own_slot ks cc)))] [(.ref r)])
    refine own_by (fun t_ k_ => XT.ifnonnullYes X99.here hx rfl (pc0 := 12) (pc' := 72) rfl (hb hby d8_12) rfl (by decide) (by decide) k_) ?_
    show own_Go p e below _ T99 (mkF m 72 #[.val (.ref a1), .val (.ref a2), .val (.int (Int32.ofNat (own_slot ks cc)))] [])
    refine own_by (fun t_ k_ => XS.aloadN X99.here hx rfl (hb hby d8_72) rfl rfl k_) ?_
    show own_Go p e below _ T99 (mkF m 73 #[.val (.ref a1), .val (.ref a2), .val (.int (Int32.ofNat (own_slot ks cc)))] [(.ref a1)])
    have F_counts_103 : Fld Z T11.heap a1 "com/example/hedgewalk/hedgewalk/input/ChildCounts" "counts" "[J" (.ref bc) := (Fld.keep F_counts K11q (ninS ne1 nin0))
    refine own_getF X99 hx hZ hown (own_w hw 42 rfl) Via.refl e99 F_counts_103 (hb hby d8_73) ?_
    intro T102 X102 e102
    show own_Go p e below _ T102 (mkF m 76 #[.val (.ref a1), .val (.ref a2), .val (.int (Int32.ofNat (own_slot ks cc)))] [(.ref bc)])
    refine own_by (fun t_ k_ => XS.iloadN X102.here hx rfl (hb hby d8_76) rfl k_) ?_
    show own_Go p e below _ T102 (mkF m 77 #[.val (.ref a1), .val (.ref a2), .val (.int (Int32.ofNat (own_slot ks cc)))] [(.int (Int32.ofNat (own_slot ks cc))), (.ref bc)])
    refine own_by (fun t_ k_ => XT.dup2 X102.here hx rfl (hb hby d8_77) rfl rfl rfl k_) ?_
    show own_Go p e below _ T102 (mkF m 78 #[.val (.ref a1), .val (.ref a2), .val (.int (Int32.ofNat (own_slot ks cc)))] [(.int (Int32.ofNat (own_slot ks cc))), (.ref bc), (.int (Int32.ofNat (own_slot ks cc))), (.ref bc)])
    have V_bc_104 : own_Arr Z T11.heap bc .long (ct.map Value.long) := (own_Arr.keep V_bc K11q (ninS (Ne.symm ne6) nin0))
    refine own_laload X102 hx hZ e102 V_bc_104 (v := (.long (ct.getD (own_slot ks cc) 0))) (own_slot ks cc) hJi (own_ctv (by omega)) (hb hby d8_78) ?_
    show own_Go p e below _ T102 (mkF m 79 #[.val (.ref a1), .val (.ref a2), .val (.int (Int32.ofNat (own_slot ks cc)))] [(.long (ct.getD (own_slot ks cc) 0)), (.int (Int32.ofNat (own_slot ks cc))), (.ref bc)])
    refine own_by (fun t_ k_ => XT.lconst X102.here hx rfl (hb hby d8_79) k_) ?_
    show own_Go p e below _ T102 (mkF m 80 #[.val (.ref a1), .val (.ref a2), .val (.int (Int32.ofNat (own_slot ks cc)))] [(.long (1 : Int64)), (.long (ct.getD (own_slot ks cc) 0)), (.int (Int32.ofNat (own_slot ks cc))), (.ref bc)])
    refine own_by (fun t_ k_ => XT.ladd X102.here hx rfl (hb hby d8_80) rfl k_) ?_
    show own_Go p e below _ T102 (mkF m 81 #[.val (.ref a1), .val (.ref a2), .val (.int (Int32.ofNat (own_slot ks cc)))] [(.long ((ct.getD (own_slot ks cc) 0) + (1 : Int64))), (.int (Int32.ofNat (own_slot ks cc))), (.ref bc)])
    refine own_dup2x2 X102 hx rfl rfl (hb hby d8_81) ?_
    show own_Go p e below _ T102 (mkF m 82 #[.val (.ref a1), .val (.ref a2), .val (.int (Int32.ofNat (own_slot ks cc)))] [(.long ((ct.getD (own_slot ks cc) 0) + (1 : Int64))), (.int (Int32.ofNat (own_slot ks cc))), (.ref bc), (.long ((ct.getD (own_slot ks cc) 0) + (1 : Int64)))])
    refine own_lastore X102 hx hZ e102 V_bc_104 (own_slot ks cc) hJi (by simp only [List.length_set, List.length_map]; omega) (hb hby d8_82) ?_
    intro T105 h105 X105 e105 W105 A105
    have V105_0 : own_Arr Z h105 bc .long ((ct.map Value.long).set (own_slot ks cc) (.long ((ct.getD (own_slot ks cc) 0) + (1 : Int64)))) := A105
    have N105 := Fr.snoc X105 N11 g_bc
    have sz105 : n0 ≤ h105.size := Nat.le_trans sz11 (Keep.of_wr W105).1
    show own_Go p e below _ T105 (mkF m 83 #[.val (.ref a1), .val (.ref a2), .val (.int (Int32.ofNat (own_slot ks cc)))] [(.long ((ct.getD (own_slot ks cc) 0) + (1 : Int64)))])
    refine own_retJ X105 hx hlk Bd.returns (hb hby d8_83) e105 (by decide) (by decide) ?_
    have E_a1_106 : Exa Z h105 a1 "com/example/hedgewalk/hedgewalk/input/ChildCounts" := (Exa.wr W105 (Exa.keep E_a1 K11q))
    have F_names_107 : Fld Z h105 a1 "com/example/hedgewalk/hedgewalk/input/ChildCounts" "names" "[Ljava/lang/String;" (.ref bn) := (Fld.other W105 F_names_100 (Or.inl ne3))
    have F_counts_108 : Fld Z h105 a1 "com/example/hedgewalk/hedgewalk/input/ChildCounts" "counts" "[J" (.ref bc) := (Fld.other W105 F_counts_103 (Or.inl ne3))
    have F_used_109 : Fld Z h105 a1 "com/example/hedgewalk/hedgewalk/input/ChildCounts" "used" "[I" (.ref bu) := (Fld.other W105 (Fld.keep F_used K11q (ninS ne1 nin0)) (Or.inl ne3))
    have F_size_110 : Fld Z h105 a1 "com/example/hedgewalk/hedgewalk/input/ChildCounts" "size" "I" (.int (Int32.ofNat k)) := (Fld.other W105 (Fld.keep F_size K11q (ninS ne1 nin0)) (Or.inl ne3))
    have V_bn_111 : own_Arr Z h105 bn (.object "java/lang/String") vs := (own_Arr.other V_bn_101 W105 ne8)
    have O_bn_112 : own_Ovr Z h105 bn "java/lang/String" := (own_Ovr.wr (own_Ovr.keep O_bn K11q) W105)
    have V_bu_113 : own_Arr Z h105 bu .int (un.map Value.int) := (own_Arr.other (own_Arr.keep V_bu K11q (ninS (Ne.symm ne7) nin0)) W105 (Ne.symm ne10))
    have S_cs_114 : Sta Z h105 "java/lang/String" "COMPACT_STRINGS" "Z" (.int cs) := (Sta.wr W105 (own_Sta_keep S_cs K11q (nsS (Exa.nostat E_a2) ns0)))
    have M11_115 : own_Strs Z h105 n0 S := (own_Strs.wrA M11 W105 V_bc_104 (by decide) (own_w hw 14 rfl))
    exact ⟨bn, bc, bu, vs, ks, _, un, k, _, rfl, N105, S_cs_114, M11_115, ⟨⟨E_a1_106, F_names_107, F_counts_108, F_used_109, F_size_110, V_bn_111, O_bn_112, own_Arr.cast V105_0 own_ct1, V_bu_113, g_a1, g_bn, g_bc, g_bu⟩, HR, HI, by rw [List.length_set]; exact hct⟩⟩
set_option maxRecDepth 65536 in
set_option maxHeartbeats 40000000 in
theorem rm8b (l : Launch) (Z : State) (a0 : Array Value) (hw : ∀ d ∈ tables_1, d.before a0 Z = true) (ws : List Jvm.Cond) (a1 : Addr) (a2 : Addr) (bn : Addr) (bc : Addr) (bu : Addr) (vs : List Value) (ks : List (Option Int32)) (ct : List Int64) (un : List Int32) (k : Nat) (S : List (Addr × Int32)) (cs : Int32) (cc : Int32) (h0 : Heap) (n0 : Nat) (Z0 : n0 ≤ h0.size) (S_cs : Sta Z h0 "java/lang/String" "COMPACT_STRINGS" "Z" (.int cs)) (hcs : ¬ cs = 0) (HS : own_Strs Z h0 n0 S) (hm : (a2, cc) ∈ S) (HT : own_Tab Z h0 n0 a1 bn bc bu vs ks ct un k S) (hk : 2 * (k + 1) ≤ ks.length) :
    MetFree l (⟨"com/example/hedgewalk/hedgewalk/input/ChildCounts", "increment", "(Ljava/lang/String;)J"⟩ : MethodName) (head1 (Jvm.Cond.code (⟨"com/example/hedgewalk/hedgewalk/input/ChildCounts", "increment", "(Ljava/lang/String;)J"⟩ : MethodName) prog_87_method_2_code 3 (some .long) :: ws) ({ frames := 3, cells := 0, slots := 0, locals := 60 } : Room)) (fun a U => a = #[(.ref a1), (.ref a2)] ∧ Z.Warmed39 U.vm ∧ U.heap = h0) (fun _ _ _ _ _ => True) (fun _ U o U' => ∃ v L, o = .returned v ∧ Q8b Z a1 cs cc ks ct k S n0 v U'.heap L ∧ FrameEnd U o U' L ({ frames := 3, cells := 0, slots := 0, locals := 60 } : Room).cells ({ frames := 3, cells := 0, slots := 0, locals := 60 } : Room).slots) := by
  refine MetFree.of_bodySF (plainFor_of_name pn_7) hisR ?_
  intro p e s m args below meth c s₁ Bd hml0 hP hK
  obtain ⟨rfl, hZ, hh⟩ := hP
  have hx := Bd.exec
  have hby := Bd.bytes
  have hml : c.maxLocals = 3 := hml0
  have hown : s.vm.findClass "com/example/hedgewalk/hedgewalk/input/ChildCounts" = some m.cls := findClass_of_methodNamed Bd.named
  have hnm := (name_of_methodNamed Bd.named Bd.method).1
  have hlk : meth.locks = false := BodyLoose.notSynchronized Bd
  have X0 : Stand p l e ({ frames := 3, cells := 0, slots := 0, locals := 60 } : Room) s m #[(.ref a1), (.ref a2)] below meth c s₁ [] 0 0 := Stand.of_body Bd
  have e0 : s₁.heap = h0 := by rw [← hh, Bd.state]; rfl
  have N0 := Fr.nil n0
  refine own_start (Q := Q8b Z a1 cs cc ks ct k S n0) (ef_8 m a1 a2) ?_
  obtain ⟨⟨E_a1, F_names, F_counts, F_used, F_size, V_bn, O_bn, V_bc, V_bu, g_a1, g_bn, g_bc, g_bu⟩, HR, HI, hct⟩ := HT
  obtain ⟨HN2, ok2, g_a2⟩ : own_Nm Z h0 a2 cc ∧ own_Ok cc ∧ n0 ≤ a2 := HS _ hm
  have E_a2 := HN2.exa
  have hN := HI.1
  have hu := HI.2.1
  have hku := HI.2.2.1
  have hl := HR.1
  have ne1 : a1 ≠ a2 := ne_exa E_a1 E_a2 (by decide)
  have ne2 : a1 ≠ bn := own_exa_arr E_a1 (own_w hw 31 rfl) V_bn
  have ne3 : a1 ≠ bc := own_exa_arr E_a1 (own_w hw 31 rfl) V_bc
  have ne4 : a1 ≠ bu := own_exa_arr E_a1 (own_w hw 31 rfl) V_bu
  have ne5 : a2 ≠ bn := own_exa_arr E_a2 (own_w hw 14 rfl) V_bn
  have ne6 : a2 ≠ bc := own_exa_arr E_a2 (own_w hw 14 rfl) V_bc
  have ne7 : a2 ≠ bu := own_exa_arr E_a2 (own_w hw 14 rfl) V_bu
  have ne8 : bn ≠ bc := own_Arr.ne V_bn V_bc (by decide)
  have ne9 : bn ≠ bu := own_Arr.ne V_bn V_bu (by decide)
  have ne10 : bc ≠ bu := own_Arr.ne V_bc V_bu (by decide)
  show own_Go p e below _ s₁ (mkF m 0 #[.val (.ref a1), .val (.ref a2), .unset] [])
  refine own_by (fun t_ k_ => XS.aloadN X0.here hx rfl (hb hby d8_0) rfl rfl k_) ?_
  show own_Go p e below _ s₁ (mkF m 1 #[.val (.ref a1), .val (.ref a2), .unset] [(.ref a1)])
  refine own_by (fun t_ k_ => XS.aloadN X0.here hx rfl (hb hby d8_1) rfl rfl k_) ?_
  show own_Go p e below _ s₁ (mkF m 2 #[.val (.ref a1), .val (.ref a2), .unset] [(.ref a2), (.ref a1)])
  refine own_callP (W := 0) X0 hx hZ (y := (⟨"com/example/hedgewalk/hedgewalk/input/ChildCounts", "slotOf", "(Ljava/lang/String;)I"⟩ : MethodName)) hown (own_w hw 52 rfl) (own_w hw 53 rfl) (own_w hw 31 rfl) (own_w hw 54 rfl) (own_w hw 32 rfl) (own_w hw 55 rfl) (by decide) (by rw [hml]; rfl) (argsL := [(.ref a2)]) pd_7 rfl (a := a1) e0 E_a1 (rm9 l Z a0 hw [] a1 a2 bn vs ks S cs cc h0 n0 Z0 S_cs hcs HS hm HR HI.1 HI.free E_a1 F_names V_bn) (by decide) (by decide) (Nat.le_of_eq rfl) (by decide) (by decide) (rest := []) rfl (hb hby d8_2) ?_
  intro v11 T11 L11 X11 hQ11
  obtain ⟨rfl, N11q, K11q, M11⟩ := hQ11
  have N11 := Fr.app N0 N11q
  have sz11 : n0 ≤ T11.heap.size := Nat.le_trans Z0 K11q.1
  show own_Go p e below _ T11 (mkF m 5 #[.val (.ref a1), .val (.ref a2), .unset] [(.int (Int32.ofNat (own_slot ks cc)))])
  refine own_by (fun t_ k_ => XS.istoreN X11.here hx rfl (hb hby d8_5) rfl (l' := #[.val (.ref a1), .val (.ref a2), .val (.int (Int32.ofNat (own_slot ks cc)))]) rfl k_) ?_
  obtain ⟨hJ, hJ'⟩ := own_slot_spec HI.free cc
  have hJi : (Int32.ofNat (own_slot ks cc)).toInt = ((own_slot ks cc : Nat) : Int) := own_ofi (by omega)
  rcases hJ' with hk0 | hk0
  · have hv := HR.atN hk0
    show own_Go p e below _ T11 (mkF m 6 #[.val (.ref a1), .val (.ref a2), .val (.int (Int32.ofNat (own_slot ks cc)))] [])
    refine own_by (fun t_ k_ => XS.aloadN X11.here hx rfl (hb hby d8_6) rfl rfl k_) ?_
    show own_Go p e below _ T11 (mkF m 7 #[.val (.ref a1), .val (.ref a2), .val (.int (Int32.ofNat (own_slot ks cc)))] [(.ref a1)])
    have F_names_13 : Fld Z T11.heap a1 "com/example/hedgewalk/hedgewalk/input/ChildCounts" "names" "[Ljava/lang/String;" (.ref bn) := (Fld.keep F_names K11q (ninS ne1 nin0))
    refine own_getF X11 hx hZ hown (own_w hw 39 rfl) Via.refl rfl F_names_13 (hb hby d8_7) ?_
    intro T12 X12 e12
    show own_Go p e below _ T12 (mkF m 10 #[.val (.ref a1), .val (.ref a2), .val (.int (Int32.ofNat (own_slot ks cc)))] [(.ref bn)])
    refine own_by (fun t_ k_ => XS.iloadN X12.here hx rfl (hb hby d8_10) rfl k_) ?_
    show own_Go p e below _ T12 (mkF m 11 #[.val (.ref a1), .val (.ref a2), .val (.int (Int32.ofNat (own_slot ks cc)))] [(.int (Int32.ofNat (own_slot ks cc))), (.ref bn)])
    have V_bn_14 : own_Arr Z T11.heap bn (.object "java/lang/String") vs := (own_Arr.keep V_bn K11q (ninS (Ne.symm ne5) nin0))
    refine own_aaload X12 hx hZ e12 V_bn_14 rfl (v := .null) (own_slot ks cc) hJi hv (hb hby d8_11) ?_
    show own_Go p e below _ T12 (mkF m 12 #[.val (.ref a1), .val (.ref a2), .val (.int (Int32.ofNat (own_slot ks cc)))] [.null])
    refine own_by (fun t_ k_ => XT.ifnonnullNo X12.here hx rfl (hb hby d8_12) rfl k_) ?_
    show own_Go p e below _ T12 (mkF m 15 #[.val (.ref a1), .val (.ref a2), .val (.int (Int32.ofNat (own_slot ks cc)))] [])
    refine own_by (fun t_ k_ => XS.iconst X12.here hx rfl (hb hby d8_15) k_) ?_
    show own_Go p e below _ T12 (mkF m 16 #[.val (.ref a1), .val (.ref a2), .val (.int (Int32.ofNat (own_slot ks cc)))] [(.int (2 : Int32))])
    refine own_by (fun t_ k_ => XS.aloadN X12.here hx rfl (hb hby d8_16) rfl rfl k_) ?_
    show own_Go p e below _ T12 (mkF m 17 #[.val (.ref a1), .val (.ref a2), .val (.int (Int32.ofNat (own_slot ks cc)))] [(.ref a1), (.int (2 : Int32))])
    have F_size_16 : Fld Z T11.heap a1 "com/example/hedgewalk/hedgewalk/input/ChildCounts" "size" "I" (.int (Int32.ofNat k)) := (Fld.keep F_size K11q (ninS ne1 nin0))
    refine own_getF X12 hx hZ hown (own_w hw 73 rfl) Via.refl e12 F_size_16 (hb hby d8_17) ?_
    intro T15 X15 e15
    show own_Go p e below _ T15 (mkF m 20 #[.val (.ref a1), .val (.ref a2), .val (.int (Int32.ofNat (own_slot ks cc)))] [(.int (Int32.ofNat k)), (.int (2 : Int32))])
    refine own_by (fun t_ k_ => XS.iconst X15.here hx rfl (hb hby d8_20) k_) ?_
    show own_Go p e below _ T15 (mkF m 21 #[.val (.ref a1), .val (.ref a2), .val (.int (Int32.ofNat (own_slot ks cc)))] [(.int (1 : Int32)), (.int (Int32.ofNat k)), (.int (2 : Int32))])
    refine own_by (fun t_ k_ => XS.iadd X15.here hx rfl (hb hby d8_21) rfl k_) ?_
    show own_Go p e below _ T15 (mkF m 22 #[.val (.ref a1), .val (.ref a2), .val (.int (Int32.ofNat (own_slot ks cc)))] [(.int ((Int32.ofNat k) + (1 : Int32))), (.int (2 : Int32))])
    refine own_by (fun t_ k_ => XS.imul X15.here hx rfl (hb hby d8_22) rfl k_) ?_
    show own_Go p e below _ T15 (mkF m 23 #[.val (.ref a1), .val (.ref a2), .val (.int (Int32.ofNat (own_slot ks cc)))] [(.int ((2 : Int32) * ((Int32.ofNat k) + (1 : Int32))))])
    refine own_by (fun t_ k_ => XS.aloadN X15.here hx rfl (hb hby d8_23) rfl rfl k_) ?_
    show own_Go p e below _ T15 (mkF m 24 #[.val (.ref a1), .val (.ref a2), .val (.int (Int32.ofNat (own_slot ks cc)))] [(.ref a1), (.int ((2 : Int32) * ((Int32.ofNat k) + (1 : Int32))))])
    refine own_getF X15 hx hZ hown (own_w hw 39 rfl) Via.refl e15 F_names_13 (hb hby d8_24) ?_
    intro T17 X17 e17
    show own_Go p e below _ T17 (mkF m 27 #[.val (.ref a1), .val (.ref a2), .val (.int (Int32.ofNat (own_slot ks cc)))] [(.ref bn), (.int ((2 : Int32) * ((Int32.ofNat k) + (1 : Int32))))])
    refine own_alen X17 hx hZ e17 V_bn_14 (hb hby d8_27) ?_
    show own_Go p e below _ T17 (mkF m 28 #[.val (.ref a1), .val (.ref a2), .val (.int (Int32.ofNat (own_slot ks cc)))] [(.int (vs).length.toInt32), (.int ((2 : Int32) * ((Int32.ofNat k) + (1 : Int32))))])
    refine own_icmp X17 hx 41 (hb hby d8_28) (by decide) (by decide) (fun _ => ?_) (fun hc => absurd (show ¬ (vs).length.toInt32 < ((2 : Int32) * ((Int32.ofNat k) + (1 : Int32))) from fun q => absurd ((own_fit (by omega) V_bn.len).mp q) (by omega)) (by first | exact hc | exact not_not_intro hc))
    show own_Go p e below _ T17 (mkF m 41 #[.val (.ref a1), .val (.ref a2), .val (.int (Int32.ofNat (own_slot ks cc)))] [])
    refine own_by (fun t_ k_ => XS.aloadN X17.here hx rfl (hb hby d8_41) rfl rfl k_) ?_
    show own_Go p e below _ T17 (mkF m 42 #[.val (.ref a1), .val (.ref a2), .val (.int (Int32.ofNat (own_slot ks cc)))] [(.ref a1)])
    refine own_getF X17 hx hZ hown (own_w hw 39 rfl) Via.refl e17 F_names_13 (hb hby d8_42) ?_
    intro T18 X18 e18
    show own_Go p e below _ T18 (mkF m 45 #[.val (.ref a1), .val (.ref a2), .val (.int (Int32.ofNat (own_slot ks cc)))] [(.ref bn)])
    refine own_by (fun t_ k_ => XS.iloadN X18.here hx rfl (hb hby d8_45) rfl k_) ?_
    show own_Go p e below _ T18 (mkF m 46 #[.val (.ref a1), .val (.ref a2), .val (.int (Int32.ofNat (own_slot ks cc)))] [(.int (Int32.ofNat (own_slot ks cc))), (.ref bn)])
    refine own_by (fun t_ k_ => XS.aloadN X18.here hx rfl (hb hby d8_46) rfl rfl k_) ?_
    show own_Go p e below _ T18 (mkF m 47 #[.val (.ref a1), .val (.ref a2), .val (.int (Int32.ofNat (own_slot ks cc)))] [(.ref a2), (.int (Int32.ofNat (own_slot ks cc))), (.ref bn)])
    have O_bn_20 : own_Ovr Z T11.heap bn "java/lang/String" := (own_Ovr.keep O_bn K11q)
    have E_a2_21 : Exa Z T11.heap a2 "java/lang/String" := (Exa.keep E_a2 K11q)
    refine own_aastore X18 hx hZ e18 V_bn_14 rfl (own_Ovr.sto O_bn_20 (Ins.self E_a2_21)) rfl (own_slot ks cc) hJi (by omega) (hb hby d8_47) ?_
    intro T19 h19 X19 e19 W19 A19
    have V19_0 : own_Arr Z h19 bn (.object "java/lang/String") (vs.set (own_slot ks cc) (.ref a2)) := A19
    have N19 := Fr.snoc X19 N11 g_bn
    have sz19 : n0 ≤ h19.size := Nat.le_trans sz11 (Keep.of_wr W19).1
    show own_Go p e below _ T19 (mkF m 48 #[.val (.ref a1), .val (.ref a2), .val (.int (Int32.ofNat (own_slot ks cc)))] [])
    refine own_by (fun t_ k_ => XS.aloadN X19.here hx rfl (hb hby d8_48) rfl rfl k_) ?_
    show own_Go p e below _ T19 (mkF m 49 #[.val (.ref a1), .val (.ref a2), .val (.int (Int32.ofNat (own_slot ks cc)))] [(.ref a1)])
    have F_counts_23 : Fld Z h19 a1 "com/example/hedgewalk/hedgewalk/input/ChildCounts" "counts" "[J" (.ref bc) := (Fld.other W19 (Fld.keep F_counts K11q (ninS ne1 nin0)) (Or.inl ne2))
    refine own_getF X19 hx hZ hown (own_w hw 42 rfl) Via.refl e19 F_counts_23 (hb hby d8_49) ?_
    intro T22 X22 e22
    show own_Go p e below _ T22 (mkF m 52 #[.val (.ref a1), .val (.ref a2), .val (.int (Int32.ofNat (own_slot ks cc)))] [(.ref bc)])
    refine own_by (fun t_ k_ => XS.iloadN X22.here hx rfl (hb hby d8_52) rfl k_) ?_
    show own_Go p e below _ T22 (mkF m 53 #[.val (.ref a1), .val (.ref a2), .val (.int (Int32.ofNat (own_slot ks cc)))] [(.int (Int32.ofNat (own_slot ks cc))), (.ref bc)])
    refine own_by (fun t_ k_ => XT.lconst X22.here hx rfl (hb hby d8_53) k_) ?_
    show own_Go p e below _ T22 (mkF m 54 #[.val (.ref a1), .val (.ref a2), .val (.int (Int32.ofNat (own_slot ks cc)))] [(.long (0 : Int64)), (.int (Int32.ofNat (own_slot ks cc))), (.ref bc)])
    have V_bc_25 : own_Arr Z h19 bc .long (ct.map Value.long) := (own_Arr.other (own_Arr.keep V_bc K11q (ninS (Ne.symm ne6) nin0)) W19 (Ne.symm ne8))
    refine own_lastore X22 hx hZ e22 V_bc_25 (own_slot ks cc) hJi (by simp only [List.length_set, List.length_map]; omega) (hb hby d8_54) ?_
    intro T24 h24 X24 e24 W24 A24
    have V24_0 : own_Arr Z h24 bc .long ((ct.map Value.long).set (own_slot ks cc) (.long (0 : Int64))) := A24
    have N24 := Fr.snoc X24 N19 g_bc
    have sz24 : n0 ≤ h24.size := Nat.le_trans sz19 (Keep.of_wr W24).1
    show own_Go p e below _ T24 (mkF m 55 #[.val (.ref a1), .val (.ref a2), .val (.int (Int32.ofNat (own_slot ks cc)))] [])
    refine own_by (fun t_ k_ => XS.aloadN X24.here hx rfl (hb hby d8_55) rfl rfl k_) ?_
    show own_Go p e below _ T24 (mkF m 56 #[.val (.ref a1), .val (.ref a2), .val (.int (Int32.ofNat (own_slot ks cc)))] [(.ref a1)])
    have F_used_27 : Fld Z h24 a1 "com/example/hedgewalk/hedgewalk/input/ChildCounts" "used" "[I" (.ref bu) := (Fld.other W24 (Fld.other W19 (Fld.keep F_used K11q (ninS ne1 nin0)) (Or.inl ne2)) (Or.inl ne3))
    refine own_getF X24 hx hZ hown (own_w hw 45 rfl) Via.refl e24 F_used_27 (hb hby d8_56) ?_
    intro T26 X26 e26
    show own_Go p e below _ T26 (mkF m 59 #[.val (.ref a1), .val (.ref a2), .val (.int (Int32.ofNat (own_slot ks cc)))] [(.ref bu)])
    refine own_by (fun t_ k_ => XS.aloadN X26.here hx rfl (hb hby d8_59) rfl rfl k_) ?_
    show own_Go p e below _ T26 (mkF m 60 #[.val (.ref a1), .val (.ref a2), .val (.int (Int32.ofNat (own_slot ks cc)))] [(.ref a1), (.ref bu)])
    refine own_by (fun t_ k_ => XS.dup X26.here hx rfl (hb hby d8_60) rfl rfl k_) ?_
    show own_Go p e below _ T26 (mkF m 61 #[.val (.ref a1), .val (.ref a2), .val (.int (Int32.ofNat (own_slot ks cc)))] [(.ref a1), (.ref a1), (.ref bu)])
    have F_size_29 : Fld Z h24 a1 "com/example/hedgewalk/hedgewalk/input/ChildCounts" "size" "I" (.int (Int32.ofNat k)) := (Fld.other W24 (Fld.other W19 F_size_16 (Or.inl ne2)) (Or.inl ne3))
    refine own_getF X26 hx hZ hown (own_w hw 73 rfl) Via.refl e26 F_size_29 (hb hby d8_61) ?_
    intro T28 X28 e28
    show own_Go p e below _ T28 (mkF m 64 #[.val (.ref a1), .val (.ref a2), .val (.int (Int32.ofNat (own_slot ks cc)))] [(.int (Int32.ofNat k)), (.ref a1), (.ref bu)])
    refine own_by (fun t_ k_ => XT.dupX1 X28.here hx rfl (hb hby d8_64) rfl rfl rfl k_) ?_
    show own_Go p e below _ T28 (mkF m 65 #[.val (.ref a1), .val (.ref a2), .val (.int (Int32.ofNat (own_slot ks cc)))] [(.int (Int32.ofNat k)), (.ref a1), (.int (Int32.ofNat k)), (.ref bu)])
    refine own_by (fun t_ k_ => XS.iconst X28.here hx rfl (hb hby d8_65) k_) ?_
    show own_Go p e below _ T28 (mkF m 66 #[.val (.ref a1), .val (.ref a2), .val (.int (Int32.ofNat (own_slot ks cc)))] [(.int (1 : Int32)), (.int (Int32.ofNat k)), (.ref a1), (.int (Int32.ofNat k)), (.ref bu)])
    refine own_by (fun t_ k_ => XS.iadd X28.here hx rfl (hb hby d8_66) rfl k_) ?_
    show own_Go p e below _ T28 (mkF m 67 #[.val (.ref a1), .val (.ref a2), .val (.int (Int32.ofNat (own_slot ks cc)))] [(.int ((Int32.ofNat k) + (1 : Int32))), (.ref a1), (.int (Int32.ofNat k)), (.ref bu)])
    have E_a1_31 : Exa Z h24 a1 "com/example/hedgewalk/hedgewalk/input/ChildCounts" := (Exa.wr W24 (Exa.wr W19 (Exa.keep E_a1 K11q)))
    refine own_putF X28 hx hZ hown (own_w hw 73 rfl) Via.refl e28 F_size_29 E_a1_31 (Or.inl (own_w hw 74 rfl)) (own_w hw 31 rfl) (ty := .int) (by decide) rfl rfl (hb hby d8_67) ?_
    intro T30 h30 X30 e30 W30
    have F30 := Fld.same W30 F_size_29
    have N30 := Fr.snoc X30 N24 g_a1
    have sz30 : n0 ≤ h30.size := Nat.le_trans sz24 (Keep.of_wr W30).1
    show own_Go p e below _ T30 (mkF m 70 #[.val (.ref a1), .val (.ref a2), .val (.int (Int32.ofNat (own_slot ks cc)))] [(.int (Int32.ofNat k)), (.ref bu)])
    refine own_by (fun t_ k_ => XS.iloadN X30.here hx rfl (hb hby d8_70) rfl k_) ?_
    show own_Go p e below _ T30 (mkF m 71 #[.val (.ref a1), .val (.ref a2), .val (.int (Int32.ofNat (own_slot ks cc)))] [(.int (Int32.ofNat (own_slot ks cc))), (.int (Int32.ofNat k)), (.ref bu)])
    have V_bu_33 : own_Arr Z h30 bu .int (un.map Value.int) := (own_Arr.other (own_Arr.other (own_Arr.other (own_Arr.keep V_bu K11q (ninS (Ne.symm ne7) nin0)) W19 (Ne.symm ne9)) W24 (Ne.symm ne10)) W30 (Ne.symm ne4))
    refine own_iastore X30 hx hZ e30 V_bu_33 k (own_ofi (by omega)) (by simp only [List.length_set, List.length_map]; omega) (hb hby d8_71) ?_
    intro T32 h32 X32 e32 W32 A32
    have V32_0 : own_Arr Z h32 bu .int ((un.map Value.int).set k (.int (Int32.ofNat (own_slot ks cc)))) := A32
    have N32 := Fr.snoc X32 N30 g_bu
    have sz32 : n0 ≤ h32.size := Nat.le_trans sz30 (Keep.of_wr W32).1
    show own_Go p e below _ T32 (mkF m 72 #[.val (.ref a1), .val (.ref a2), .val (.int (Int32.ofNat (own_slot ks cc)))] [])
    refine own_by (fun t_ k_ => XS.aloadN X32.here hx rfl (hb hby d8_72) rfl rfl k_) ?_
    show own_Go p e below _ T32 (mkF m 73 #[.val (.ref a1), .val (.ref a2), .val (.int (Int32.ofNat (own_slot ks cc)))] [(.ref a1)])
    have F_counts_35 : Fld Z h32 a1 "com/example/hedgewalk/hedgewalk/input/ChildCounts" "counts" "[J" (.ref bc) := (Fld.other W32 (Fld.other W30 (Fld.other W24 F_counts_23 (Or.inl ne3)) (Or.inr (slot_ne (Or.inl (own_w hw 43 rfl)) (Or.inl (own_w hw 74 rfl)) (by decide) (t := (.array .long)) (t' := .int) (by decide) (by decide)))) (Or.inl ne4))
    refine own_getF X32 hx hZ hown (own_w hw 42 rfl) Via.refl e32 F_counts_35 (hb hby d8_73) ?_
    intro T34 X34 e34
    show own_Go p e below _ T34 (mkF m 76 #[.val (.ref a1), .val (.ref a2), .val (.int (Int32.ofNat (own_slot ks cc)))] [(.ref bc)])
    refine own_by (fun t_ k_ => XS.iloadN X34.here hx rfl (hb hby d8_76) rfl k_) ?_
    show own_Go p e below _ T34 (mkF m 77 #[.val (.ref a1), .val (.ref a2), .val (.int (Int32.ofNat (own_slot ks cc)))] [(.int (Int32.ofNat (own_slot ks cc))), (.ref bc)])
    refine own_by (fun t_ k_ => XT.dup2 X34.here hx rfl (hb hby d8_77) rfl rfl rfl k_) ?_
    show own_Go p e below _ T34 (mkF m 78 #[.val (.ref a1), .val (.ref a2), .val (.int (Int32.ofNat (own_slot ks cc)))] [(.int (Int32.ofNat (own_slot ks cc))), (.ref bc), (.int (Int32.ofNat (own_slot ks cc))), (.ref bc)])
    have V24_36 : own_Arr Z h32 bc .long ((ct.map Value.long).set (own_slot ks cc) (.long (0 : Int64))) := (own_Arr.other (own_Arr.other V24_0 W30 (Ne.symm ne3)) W32 ne10)
    refine own_laload X34 hx hZ e34 V24_36 (v := (.long (0 : Int64))) (own_slot ks cc) hJi (own_ctw (by omega)) (hb hby d8_78) ?_
    show own_Go p e below _ T34 (mkF m 79 #[.val (.ref a1), .val (.ref a2), .val (.int (Int32.ofNat (own_slot ks cc)))] [(.long (0 : Int64)), (.int (Int32.ofNat (own_slot ks cc))), (.ref bc)])
    refine own_by (fun t_ k_ => XT.lconst X34.here hx rfl (hb hby d8_79) k_) ?_
    show own_Go p e below _ T34 (mkF m 80 #[.val (.ref a1), .val (.ref a2), .val (.int (Int32.ofNat (own_slot ks cc)))] [(.long (1 : Int64)), (.long (0 : Int64)), (.int (Int32.ofNat (own_slot ks cc))), (.ref bc)])
    refine own_by (fun t_ k_ => XT.ladd X34.here hx rfl (hb hby d8_80) rfl k_) ?_
    show own_Go p e below _ T34 (mkF m 81 #[.val (.ref a1), .val (.ref a2), .val (.int (Int32.ofNat (own_slot ks cc)))] [(.long (1 : Int64)), (.int (Int32.ofNat (own_slot ks cc))), (.ref bc)])
    refine own_dup2x2 X34 hx rfl rfl (hb hby d8_81) ?_
    show own_Go p e below _ T34 (mkF m 82 #[.val (.ref a1), .val (.ref a2), .val (.int (Int32.ofNat (own_slot ks cc)))] [(.long (1 : Int64)), (.int (Int32.ofNat (own_slot ks cc))), (.ref bc), (.long (1 : Int64))])
    refine own_lastore X34 hx hZ e34 V24_36 (own_slot ks cc) hJi (by simp only [List.length_set, List.length_map]; omega) (hb hby d8_82) ?_
    intro T37 h37 X37 e37 W37 A37
    have V37_0 : own_Arr Z h37 bc .long (((ct.map Value.long).set (own_slot ks cc) (.long (0 : Int64))).set (own_slot ks cc) (.long (1 : Int64))) := A37
    have N37 := Fr.snoc X37 N32 g_bc
    have sz37 : n0 ≤ h37.size := Nat.le_trans sz32 (Keep.of_wr W37).1
    show own_Go p e below _ T37 (mkF m 83 #[.val (.ref a1), .val (.ref a2), .val (.int (Int32.ofNat (own_slot ks cc)))] [(.long (1 : Int64))])
    refine own_retJ X37 hx hlk Bd.returns (hb hby d8_83) e37 (by decide) (by decide) ?_
    have E_a1_38 : Exa Z h37 a1 "com/example/hedgewalk/hedgewalk/input/ChildCounts" := (Exa.wr W37 (Exa.wr W32 (Exa.wr W30 E_a1_31)))
    have F_names_39 : Fld Z h37 a1 "com/example/hedgewalk/hedgewalk/input/ChildCounts" "names" "[Ljava/lang/String;" (.ref bn) := (Fld.other W37 (Fld.other W32 (Fld.other W30 (Fld.other W24 (Fld.other W19 F_names_13 (Or.inl ne2)) (Or.inl ne3)) (Or.inr (slot_ne (Or.inl (own_w hw 40 rfl)) (Or.inl (own_w hw 74 rfl)) (by decide) (t := (.array (.object "java/lang/String"))) (t' := .int) (by decide) (by decide)))) (Or.inl ne4)) (Or.inl ne3))
    have F_counts_40 : Fld Z h37 a1 "com/example/hedgewalk/hedgewalk/input/ChildCounts" "counts" "[J" (.ref bc) := (Fld.other W37 F_counts_35 (Or.inl ne3))
    have F_used_41 : Fld Z h37 a1 "com/example/hedgewalk/hedgewalk/input/ChildCounts" "used" "[I" (.ref bu) := (Fld.other W37 (Fld.other W32 (Fld.other W30 F_used_27 (Or.inr (slot_ne (Or.inl (own_w hw 46 rfl)) (Or.inl (own_w hw 74 rfl)) (by decide) (t := (.array .int)) (t' := .int) (by decide) (by decide)))) (Or.inl ne4)) (Or.inl ne3))
    have F30_42 : Fld Z h37 a1 "com/example/hedgewalk/hedgewalk/input/ChildCounts" "size" "I" (.int ((Int32.ofNat k) + (1 : Int32))) := (Fld.other W37 (Fld.other W32 F30 (Or.inl ne4)) (Or.inl ne3))
    have V19_43 : own_Arr Z h37 bn (.object "java/lang/String") (vs.set (own_slot ks cc) (.ref a2)) := (own_Arr.other (own_Arr.other (own_Arr.other (own_Arr.other V19_0 W24 ne8) W30 (Ne.symm ne2)) W32 ne9) W37 ne8)
    have O_bn_44 : own_Ovr Z h37 bn "java/lang/String" := (own_Ovr.wr (own_Ovr.wr (own_Ovr.wr (own_Ovr.wr (own_Ovr.wr O_bn_20 W19) W24) W30) W32) W37)
    have V32_45 : own_Arr Z h37 bu .int ((un.map Value.int).set k (.int (Int32.ofNat (own_slot ks cc)))) := (own_Arr.other V32_0 W37 (Ne.symm ne10))
    have S_cs_46 : Sta Z h37 "java/lang/String" "COMPACT_STRINGS" "Z" (.int cs) := (Sta.wr W37 (Sta.wr W32 (Sta.wr W30 (Sta.wr W24 (Sta.wr W19 (own_Sta_keep S_cs K11q (nsS (Exa.nostat E_a2) ns0)))))))
    have M11_47 : own_Strs Z h37 n0 S := (own_Strs.wrA (own_Strs.wrA (own_Strs.wrE (own_Strs.wrA (own_Strs.wrA M11 W19 V_bn_14 (by decide) (own_w hw 14 rfl)) W24 V_bc_25 (by decide) (own_w hw 14 rfl)) W30 E_a1_31 (own_w hw 31 rfl)) W32 V_bu_33 (by decide) (own_w hw 14 rfl)) W37 V24_36 (by decide) (own_w hw 14 rfl))
    exact ⟨bn, bc, bu, _, ks.set (own_slot ks cc) (some cc), ct.set (own_slot ks cc) 1, un.set k (Int32.ofNat (own_slot ks cc)), k + 1, _, rfl, N37, S_cs_46, M11_47, ⟨⟨E_a1_38, F_names_39, F_counts_40, F_used_41, (by rw [← own_ofs]; exact F30_42), V19_43, O_bn_44, own_Arr.cast V37_0 own_ct2, own_Arr.cast V32_45 own_un1, g_a1, g_bn, g_bc, g_bu⟩, HR.put hJ hm, HI.put hJ (by omega), by rw [List.length_set, List.length_set]; exact hct⟩, Nat.le_refl _, by rw [List.length_set], Or.inr ⟨hk0, rfl, rfl, rfl⟩⟩
  · obtain ⟨r, hv, -⟩ := HR.atS hk0
    show own_Go p e below _ T11 (mkF m 6 #[.val (.ref a1), .val (.ref a2), .val (.int (Int32.ofNat (own_slot ks cc)))] [])
    refine own_by (fun t_ k_ => XS.aloadN X11.here hx rfl (hb hby d8_6) rfl rfl k_) ?_
    show own_Go p e below _ T11 (mkF m 7 #[.val (.ref a1), .val (.ref a2), .val (.int (Int32.ofNat (own_slot ks cc)))] [(.ref a1)])
    have F_names_49 : Fld Z T11.heap a1 "com/example/hedgewalk/hedgewalk/input/ChildCounts" "names" "[Ljava/lang/String;" (.ref bn) := (Fld.keep F_names K11q (ninS ne1 nin0))
    refine own_getF X11 hx hZ hown (own_w hw 39 rfl) Via.refl rfl F_names_49 (hb hby d8_7) ?_
    intro T48 X48 e48
    show own_Go p e below _ T48 (mkF m 10 #[.val (.ref a1), .val (.ref a2), .val (.int (Int32.ofNat (own_slot ks cc)))] [(.ref bn)])
    refine own_by (fun t_ k_ => XS.iloadN X48.here hx rfl (hb hby d8_10) rfl k_) ?_
    show own_Go p e below _ T48 (mkF m 11 #[.val (.ref a1), .val (.ref a2), .val (.int (Int32.ofNat (own_slot ks cc)))] [(.int (Int32.ofNat (own_slot ks cc))), (.ref bn)])
    have V_bn_50 : own_Arr Z T11.heap bn (.object "java/lang/String") vs := (own_Arr.keep V_bn K11q (ninS (Ne.symm ne5) nin0))
    refine own_aaload X48 hx hZ e48 V_bn_50 rfl (v := (.ref r)) (own_slot ks cc) hJi hv (hb hby d8_11) ?_
    show own_Go p e below _ T48 (mkF m 12 #[.val (.ref a1), .val (.ref a2), .val (.int (Int32.ofNat (own_slot ks cc)))] [(.ref r)])
    refine own_by (fun t_ k_ => XT.ifnonnullYes X48.here hx rfl (pc0 := 12) (pc' := 72) rfl (hb hby d8_12) rfl (by decide) (by decide) k_) ?_
    show own_Go p e below _ T48 (mkF m 72 #[.val (.ref a1), .val (.ref a2), .val (.int (Int32.ofNat (own_slot ks cc)))] [])
    refine own_by (fun t_ k_ => XS.aloadN X48.here hx rfl (hb hby d8_72) rfl rfl k_) ?_
    show own_Go p e below _ T48 (mkF m 73 #[.val (.ref a1), .val (.ref a2), .val (.int (Int32.ofNat (own_slot ks cc)))] [(.ref a1)])
    have F_counts_52 : Fld Z T11.heap a1 "com/example/hedgewalk/hedgewalk/input/ChildCounts" "counts" "[J" (.ref bc) := (Fld.keep F_counts K11q (ninS ne1 nin0))
    refine own_getF X48 hx hZ hown (own_w hw 42 rfl) Via.refl e48 F_counts_52 (hb hby d8_73) ?_
    intro T51 X51 e51
    show own_Go p e below _ T51 (mkF m 76 #[.val (.ref a1), .val (.ref a2), .val (.int (Int32.ofNat (own_slot ks cc)))] [(.ref bc)])
    refine own_by (fun t_ k_ => XS.iloadN X51.here hx rfl (hb hby d8_76) rfl k_) ?_
    show own_Go p e below _ T51 (mkF m 77 #[.val (.ref a1), .val (.ref a2), .val (.int (Int32.ofNat (own_slot ks cc)))] [(.int (Int32.ofNat (own_slot ks cc))), (.ref bc)])
    refine own_by (fun t_ k_ => XT.dup2 X51.here hx rfl (hb hby d8_77) rfl rfl rfl k_) ?_
    show own_Go p e below _ T51 (mkF m 78 #[.val (.ref a1), .val (.ref a2), .val (.int (Int32.ofNat (own_slot ks cc)))] [(.int (Int32.ofNat (own_slot ks cc))), (.ref bc), (.int (Int32.ofNat (own_slot ks cc))), (.ref bc)])
    have V_bc_53 : own_Arr Z T11.heap bc .long (ct.map Value.long) := (own_Arr.keep V_bc K11q (ninS (Ne.symm ne6) nin0))
    refine own_laload X51 hx hZ e51 V_bc_53 (v := (.long (ct.getD (own_slot ks cc) 0))) (own_slot ks cc) hJi (own_ctv (by omega)) (hb hby d8_78) ?_
    show own_Go p e below _ T51 (mkF m 79 #[.val (.ref a1), .val (.ref a2), .val (.int (Int32.ofNat (own_slot ks cc)))] [(.long (ct.getD (own_slot ks cc) 0)), (.int (Int32.ofNat (own_slot ks cc))), (.ref bc)])
    refine own_by (fun t_ k_ => XT.lconst X51.here hx rfl (hb hby d8_79) k_) ?_
    show own_Go p e below _ T51 (mkF m 80 #[.val (.ref a1), .val (.ref a2), .val (.int (Int32.ofNat (own_slot ks cc)))] [(.long (1 : Int64)), (.long (ct.getD (own_slot ks cc) 0)), (.int (Int32.ofNat (own_slot ks cc))), (.ref bc)])
    refine own_by (fun t_ k_ => XT.ladd X51.here hx rfl (hb hby d8_80) rfl k_) ?_
    show own_Go p e below _ T51 (mkF m 81 #[.val (.ref a1), .val (.ref a2), .val (.int (Int32.ofNat (own_slot ks cc)))] [(.long ((ct.getD (own_slot ks cc) 0) + (1 : Int64))), (.int (Int32.ofNat (own_slot ks cc))), (.ref bc)])
    refine own_dup2x2 X51 hx rfl rfl (hb hby d8_81) ?_
    show own_Go p e below _ T51 (mkF m 82 #[.val (.ref a1), .val (.ref a2), .val (.int (Int32.ofNat (own_slot ks cc)))] [(.long ((ct.getD (own_slot ks cc) 0) + (1 : Int64))), (.int (Int32.ofNat (own_slot ks cc))), (.ref bc), (.long ((ct.getD (own_slot ks cc) 0) + (1 : Int64)))])
    refine own_lastore X51 hx hZ e51 V_bc_53 (own_slot ks cc) hJi (by simp only [List.length_set, List.length_map]; omega) (hb hby d8_82) ?_
    intro T54 h54 X54 e54 W54 A54
    have V54_0 : own_Arr Z h54 bc .long ((ct.map Value.long).set (own_slot ks cc) (.long ((ct.getD (own_slot ks cc) 0) + (1 : Int64)))) := A54
    have N54 := Fr.snoc X54 N11 g_bc
    have sz54 : n0 ≤ h54.size := Nat.le_trans sz11 (Keep.of_wr W54).1
    show own_Go p e below _ T54 (mkF m 83 #[.val (.ref a1), .val (.ref a2), .val (.int (Int32.ofNat (own_slot ks cc)))] [(.long ((ct.getD (own_slot ks cc) 0) + (1 : Int64)))])
    refine own_retJ X54 hx hlk Bd.returns (hb hby d8_83) e54 (by decide) (by decide) ?_
    have E_a1_55 : Exa Z h54 a1 "com/example/hedgewalk/hedgewalk/input/ChildCounts" := (Exa.wr W54 (Exa.keep E_a1 K11q))
    have F_names_56 : Fld Z h54 a1 "com/example/hedgewalk/hedgewalk/input/ChildCounts" "names" "[Ljava/lang/String;" (.ref bn) := (Fld.other W54 F_names_49 (Or.inl ne3))
    have F_counts_57 : Fld Z h54 a1 "com/example/hedgewalk/hedgewalk/input/ChildCounts" "counts" "[J" (.ref bc) := (Fld.other W54 F_counts_52 (Or.inl ne3))
    have F_used_58 : Fld Z h54 a1 "com/example/hedgewalk/hedgewalk/input/ChildCounts" "used" "[I" (.ref bu) := (Fld.other W54 (Fld.keep F_used K11q (ninS ne1 nin0)) (Or.inl ne3))
    have F_size_59 : Fld Z h54 a1 "com/example/hedgewalk/hedgewalk/input/ChildCounts" "size" "I" (.int (Int32.ofNat k)) := (Fld.other W54 (Fld.keep F_size K11q (ninS ne1 nin0)) (Or.inl ne3))
    have V_bn_60 : own_Arr Z h54 bn (.object "java/lang/String") vs := (own_Arr.other V_bn_50 W54 ne8)
    have O_bn_61 : own_Ovr Z h54 bn "java/lang/String" := (own_Ovr.wr (own_Ovr.keep O_bn K11q) W54)
    have V_bu_62 : own_Arr Z h54 bu .int (un.map Value.int) := (own_Arr.other (own_Arr.keep V_bu K11q (ninS (Ne.symm ne7) nin0)) W54 (Ne.symm ne10))
    have S_cs_63 : Sta Z h54 "java/lang/String" "COMPACT_STRINGS" "Z" (.int cs) := (Sta.wr W54 (own_Sta_keep S_cs K11q (nsS (Exa.nostat E_a2) ns0)))
    have M11_64 : own_Strs Z h54 n0 S := (own_Strs.wrA M11 W54 V_bc_53 (by decide) (own_w hw 14 rfl))
    exact ⟨bn, bc, bu, vs, ks, _, un, k, _, rfl, N54, S_cs_63, M11_64, ⟨⟨E_a1_55, F_names_56, F_counts_57, F_used_58, F_size_59, V_bn_60, O_bn_61, own_Arr.cast V54_0 own_ct1, V_bu_62, g_a1, g_bn, g_bc, g_bu⟩, HR, HI, by rw [List.length_set]; exact hct⟩, Nat.le_succ _, rfl, Or.inl ⟨hk0, rfl, rfl, rfl⟩⟩
theorem ef_15 (m : MethodId) (a1 : Addr) : entryFrame m #[(.ref a1)] 2 = mkF m 0 #[.val (.ref a1), .unset] [] := by first | (simp [entryFrame, mkF, argsToLocals, Value.category]; done) | rfl
set_option maxRecDepth 65536 in
set_option maxHeartbeats 40000000 in
theorem rm15 (l : Launch) (Z : State) (a0 : Array Value) (hw : ∀ d ∈ tables_1, d.before a0 Z = true) (ws : List Jvm.Cond) (a1 : Addr) (bn : Addr) (bc : Addr) (bu : Addr) (vs : List Value) (ks : List (Option Int32)) (ct : List Int64) (un : List Int32) (k : Nat) (S : List (Addr × Int32)) (cs : Int32) (h0 : Heap) (n0 : Nat) (Z0 : n0 ≤ h0.size) (S_cs : Sta Z h0 "java/lang/String" "COMPACT_STRINGS" "Z" (.int cs)) (hcs : ¬ cs = 0) (HS : own_Strs Z h0 n0 S) (HT : own_Tab Z h0 n0 a1 bn bc bu vs ks ct un k S) :
    MetFree l (⟨"com/example/hedgewalk/hedgewalk/input/ChildCounts", "clear", "()V"⟩ : MethodName) (head1 (Jvm.Cond.code (⟨"com/example/hedgewalk/hedgewalk/input/ChildCounts", "clear", "()V"⟩ : MethodName) prog_87_method_3_code 2 none :: ws) ({ frames := 0, cells := 0, slots := 0, locals := 0 } : Room)) (fun a U => a = #[(.ref a1)] ∧ Z.Warmed39 U.vm ∧ U.heap = h0) (fun _ _ _ _ _ => True) (fun _ U o U' => ∃ v L, o = .returned v ∧ Q15 Z a1 cs ks.length S n0 v U'.heap L ∧ FrameEnd U o U' L ({ frames := 0, cells := 0, slots := 0, locals := 0 } : Room).cells ({ frames := 0, cells := 0, slots := 0, locals := 0 } : Room).slots) := by
  refine MetFree.of_bodySF (plainFor_of_name pn_7) hisR ?_
  intro p e s m args below meth c s₁ Bd hml0 hP hK
  obtain ⟨rfl, hZ, hh⟩ := hP
  have hx := Bd.exec
  have hby := Bd.bytes
  have hml : c.maxLocals = 2 := hml0
  have hown : s.vm.findClass "com/example/hedgewalk/hedgewalk/input/ChildCounts" = some m.cls := findClass_of_methodNamed Bd.named
  have hnm := (name_of_methodNamed Bd.named Bd.method).1
  have hlk : meth.locks = false := BodyLoose.notSynchronized Bd
  have X0 : Stand p l e ({ frames := 0, cells := 0, slots := 0, locals := 0 } : Room) s m #[(.ref a1)] below meth c s₁ [] 0 0 := Stand.of_body Bd
  have e0 : s₁.heap = h0 := by rw [← hh, Bd.state]; rfl
  have N0 := Fr.nil n0
  refine own_start (Q := Q15 Z a1 cs ks.length S n0) (ef_15 m a1) ?_
  obtain ⟨HT, HR, HI, hct⟩ := HT
  have hN := HI.1
  have hu := HI.2.1
  have hku := HI.2.2.1
  have hl := HR.1
  have hki : (Int32.ofNat k).toInt = (k : Int) := own_ofi (by omega)
  have lp : ∀ (f : Nat) (T : State) (h1 : Heap) (L : List Loc) (i : Int32) (I : Nat) (w : List Value) (kw : List (Option Int32)), Stand p l e ({ frames := 0, cells := 0, slots := 0, locals := 0 } : Room) s m #[(.ref a1)] below meth c T L 0 0 → T.heap = h1 → Fr n0 L → n0 ≤ h1.size → I + f = k → i.toInt = (I : Int) → Sta Z h1 "java/lang/String" "COMPACT_STRINGS" "Z" (.int cs) → own_Strs Z h1 n0 S → own_T Z h1 n0 a1 bn bc bu w ct un (Int32.ofNat k) → own_Rel w kw S → kw.length = ks.length → (∀ (j : Nat) (d : Int32), kw[j]? = some (some d) → ∃ i : Nat, I ≤ i ∧ i < k ∧ un[i]? = some (Int32.ofNat j)) → own_Go p e below (own_Fin s (Q15 Z a1 cs ks.length S n0) ({ frames := 0, cells := 0, slots := 0, locals := 0 } : Room).cells ({ frames := 0, cells := 0, slots := 0, locals := 0 } : Room).slots) T (mkF m 2 #[.val (.ref a1), .val (.int i)] []) := by
    intro f
    induction f with
    | zero =>
      intro T h1 L i I w kw X eT N sz1 hI hi C1 M1 HT1 HRw hlw Hw
      obtain ⟨E_a1, F_names, F_counts, F_used, F_size, V_bn, O_bn, V_bc, V_bu, g_a1, g_bn, g_bc, g_bu⟩ := HT1
      have ne1 : a1 ≠ bn := own_exa_arr E_a1 (own_w hw 31 rfl) V_bn
      have ne2 : a1 ≠ bc := own_exa_arr E_a1 (own_w hw 31 rfl) V_bc
      have ne3 : a1 ≠ bu := own_exa_arr E_a1 (own_w hw 31 rfl) V_bu
      have ne4 : bn ≠ bc := own_Arr.ne V_bn V_bc (by decide)
      have ne5 : bn ≠ bu := own_Arr.ne V_bn V_bu (by decide)
      have ne6 : bc ≠ bu := own_Arr.ne V_bc V_bu (by decide)
      show own_Go p e below _ T (mkF m 2 #[.val (.ref a1), .val (.int i)] [])
      refine own_by (fun t_ k_ => XS.iloadN X.here hx rfl (hb hby d15_2) rfl k_) ?_
      show own_Go p e below _ T (mkF m 3 #[.val (.ref a1), .val (.int i)] [(.int i)])
      refine own_by (fun t_ k_ => XS.aloadN X.here hx rfl (hb hby d15_3) rfl rfl k_) ?_
      show own_Go p e below _ T (mkF m 4 #[.val (.ref a1), .val (.int i)] [(.ref a1), (.int i)])
      refine own_getF X hx hZ hown (own_w hw 73 rfl) Via.refl eT F_size (hb hby d15_4) ?_
      intro T7 X7 e7
      show own_Go p e below _ T7 (mkF m 7 #[.val (.ref a1), .val (.int i)] [(.int (Int32.ofNat k)), (.int i)])
      refine own_icmp X7 hx 28 (hb hby d15_7) (by decide) (by decide) (fun _ => ?_) (fun hc => absurd (show ¬ i < (Int32.ofNat k) from own_nlt hi hki (by omega)) (by first | exact hc | exact not_not_intro hc))
      show own_Go p e below _ T7 (mkF m 28 #[.val (.ref a1), .val (.int i)] [])
      refine own_by (fun t_ k_ => XS.aloadN X7.here hx rfl (hb hby d15_28) rfl rfl k_) ?_
      show own_Go p e below _ T7 (mkF m 29 #[.val (.ref a1), .val (.int i)] [(.ref a1)])
      refine own_by (fun t_ k_ => XS.iconst X7.here hx rfl (hb hby d15_29) k_) ?_
      show own_Go p e below _ T7 (mkF m 30 #[.val (.ref a1), .val (.int i)] [(.int (0 : Int32)), (.ref a1)])
      refine own_putF X7 hx hZ hown (own_w hw 73 rfl) Via.refl e7 F_size E_a1 (Or.inl (own_w hw 74 rfl)) (own_w hw 31 rfl) (ty := .int) (by decide) rfl rfl (hb hby d15_30) ?_
      intro T8 h8 X8 e8 W8
      have F8 := Fld.same W8 F_size
      have N8 := Fr.snoc X8 N g_a1
      have sz8 : n0 ≤ h8.size := Nat.le_trans sz1 (Keep.of_wr W8).1
      show own_Go p e below _ T8 (mkF m 33 #[.val (.ref a1), .val (.int i)] [])
      refine own_retV X8 hx hlk Bd.returns (hb hby d15_33) e8 (by decide) (by decide) ?_
      have E_a1_9 : Exa Z h8 a1 "com/example/hedgewalk/hedgewalk/input/ChildCounts" := (Exa.wr W8 E_a1)
      have F_names_10 : Fld Z h8 a1 "com/example/hedgewalk/hedgewalk/input/ChildCounts" "names" "[Ljava/lang/String;" (.ref bn) := (Fld.other W8 F_names (Or.inr (slot_ne (Or.inl (own_w hw 40 rfl)) (Or.inl (own_w hw 74 rfl)) (by decide) (t := (.array (.object "java/lang/String"))) (t' := .int) (by decide) (by decide))))
      have F_counts_11 : Fld Z h8 a1 "com/example/hedgewalk/hedgewalk/input/ChildCounts" "counts" "[J" (.ref bc) := (Fld.other W8 F_counts (Or.inr (slot_ne (Or.inl (own_w hw 43 rfl)) (Or.inl (own_w hw 74 rfl)) (by decide) (t := (.array .long)) (t' := .int) (by decide) (by decide))))
      have F_used_12 : Fld Z h8 a1 "com/example/hedgewalk/hedgewalk/input/ChildCounts" "used" "[I" (.ref bu) := (Fld.other W8 F_used (Or.inr (slot_ne (Or.inl (own_w hw 46 rfl)) (Or.inl (own_w hw 74 rfl)) (by decide) (t := (.array .int)) (t' := .int) (by decide) (by decide))))
      have V_bn_13 : own_Arr Z h8 bn (.object "java/lang/String") w := (own_Arr.other V_bn W8 (Ne.symm ne1))
      have O_bn_14 : own_Ovr Z h8 bn "java/lang/String" := (own_Ovr.wr O_bn W8)
      have V_bc_15 : own_Arr Z h8 bc .long (ct.map Value.long) := (own_Arr.other V_bc W8 (Ne.symm ne2))
      have V_bu_16 : own_Arr Z h8 bu .int (un.map Value.int) := (own_Arr.other V_bu W8 (Ne.symm ne3))
      have C1_17 : Sta Z h8 "java/lang/String" "COMPACT_STRINGS" "Z" (.int cs) := (Sta.wr W8 C1)
      have M1_18 : own_Strs Z h8 n0 S := (own_Strs.wrE M1 W8 E_a1 (own_w hw 31 rfl))
      have hkw := own_none (kw := kw) (fun j d q => by obtain ⟨i, h1, h2, -⟩ := Hw j d q; omega)
      rw [hlw] at hkw
      exact ⟨bn, bc, bu, w, ct, un, rfl, N8, C1_17, M1_18, ⟨⟨E_a1_9, F_names_10, F_counts_11, F_used_12, F8, V_bn_13, O_bn_14, V_bc_15, V_bu_16, g_a1, g_bn, g_bc, g_bu⟩, hkw ▸ HRw, own_Inv.nil hN hu, by rw [List.length_replicate]; exact hct⟩⟩
    | succ f ih =>
      intro T h1 L i I w kw X eT N sz1 hI hi C1 M1 HT1 HRw hlw Hw
      obtain ⟨E_a1, F_names, F_counts, F_used, F_size, V_bn, O_bn, V_bc, V_bu, g_a1, g_bn, g_bc, g_bu⟩ := HT1
      have hlw' := HRw.1
      have ne1 : a1 ≠ bn := own_exa_arr E_a1 (own_w hw 31 rfl) V_bn
      have ne2 : a1 ≠ bc := own_exa_arr E_a1 (own_w hw 31 rfl) V_bc
      have ne3 : a1 ≠ bu := own_exa_arr E_a1 (own_w hw 31 rfl) V_bu
      have ne4 : bn ≠ bc := own_Arr.ne V_bn V_bc (by decide)
      have ne5 : bn ≠ bu := own_Arr.ne V_bn V_bu (by decide)
      have ne6 : bc ≠ bu := own_Arr.ne V_bc V_bu (by decide)
      show own_Go p e below _ T (mkF m 2 #[.val (.ref a1), .val (.int i)] [])
      refine own_by (fun t_ k_ => XS.iloadN X.here hx rfl (hb hby d15_2) rfl k_) ?_
      show own_Go p e below _ T (mkF m 3 #[.val (.ref a1), .val (.int i)] [(.int i)])
      refine own_by (fun t_ k_ => XS.aloadN X.here hx rfl (hb hby d15_3) rfl rfl k_) ?_
      show own_Go p e below _ T (mkF m 4 #[.val (.ref a1), .val (.int i)] [(.ref a1), (.int i)])
      refine own_getF X hx hZ hown (own_w hw 73 rfl) Via.refl eT F_size (hb hby d15_4) ?_
      intro T7 X7 e7
      show own_Go p e below _ T7 (mkF m 7 #[.val (.ref a1), .val (.int i)] [(.int (Int32.ofNat k)), (.int i)])
      refine own_icmp X7 hx 28 (hb hby d15_7) (by decide) (by decide) (fun hc => absurd (show i < (Int32.ofNat k) from own_ilt hi hki (by omega)) (by first | exact hc | exact not_not_intro hc)) (fun _ => ?_)
      obtain ⟨q, d, hq1, hk⟩ := HI.2.2.2.2.2 I (by omega)
      have hq : q < ks.length := (List.getElem?_eq_some_iff.mp hk).1
      have hqi : (Int32.ofNat q).toInt = (q : Int) := own_ofi (by omega)
      show own_Go p e below _ T7 (mkF m 10 #[.val (.ref a1), .val (.int i)] [])
      refine own_by (fun t_ k_ => XS.aloadN X7.here hx rfl (hb hby d15_10) rfl rfl k_) ?_
      show own_Go p e below _ T7 (mkF m 11 #[.val (.ref a1), .val (.int i)] [(.ref a1)])
      refine own_getF X7 hx hZ hown (own_w hw 39 rfl) Via.refl e7 F_names (hb hby d15_11) ?_
      intro T8 X8 e8
      show own_Go p e below _ T8 (mkF m 14 #[.val (.ref a1), .val (.int i)] [(.ref bn)])
      refine own_by (fun t_ k_ => XS.aloadN X8.here hx rfl (hb hby d15_14) rfl rfl k_) ?_
      show own_Go p e below _ T8 (mkF m 15 #[.val (.ref a1), .val (.int i)] [(.ref a1), (.ref bn)])
      refine own_getF X8 hx hZ hown (own_w hw 45 rfl) Via.refl e8 F_used (hb hby d15_15) ?_
      intro T9 X9 e9
      show own_Go p e below _ T9 (mkF m 18 #[.val (.ref a1), .val (.int i)] [(.ref bu), (.ref bn)])
      refine own_by (fun t_ k_ => XS.iloadN X9.here hx rfl (hb hby d15_18) rfl k_) ?_
      show own_Go p e below _ T9 (mkF m 19 #[.val (.ref a1), .val (.int i)] [(.int i), (.ref bu), (.ref bn)])
      refine own_iaload X9 hx hZ e9 V_bu (v := (.int (Int32.ofNat q))) I hi (own_unv hq1) (hb hby d15_19) ?_
      show own_Go p e below _ T9 (mkF m 20 #[.val (.ref a1), .val (.int i)] [(.int (Int32.ofNat q)), (.ref bn)])
      refine own_by (fun t_ k_ => XS.aconstNull X9.here hx rfl (hb hby d15_20) k_) ?_
      show own_Go p e below _ T9 (mkF m 21 #[.val (.ref a1), .val (.int i)] [.null, (.int (Int32.ofNat q)), (.ref bn)])
      refine own_aastore X9 hx hZ e9 V_bn rfl (Or.inl rfl) rfl q hqi (by omega) (hb hby d15_21) ?_
      intro T10 h10 X10 e10 W10 A10
      have V10_0 : own_Arr Z h10 bn (.object "java/lang/String") (w.set q .null) := A10
      have N10 := Fr.snoc X10 N g_bn
      have sz10 : n0 ≤ h10.size := Nat.le_trans sz1 (Keep.of_wr W10).1
      show own_Go p e below _ T10 (mkF m 22 #[.val (.ref a1), .val (.int i)] [])
      refine own_by (fun t_ k_ => XS.iinc X10.here hx rfl (hb hby d15_22) rfl (l' := #[.val (.ref a1), .val (.int (i + (1 : Int32)))]) rfl k_) ?_
      show own_Go p e below _ T10 (mkF m 25 #[.val (.ref a1), .val (.int (i + (1 : Int32)))] [])
      refine own_by (fun t_ k_ => XS.goto X10.here hx rfl (pc0 := 25) (pc' := 2) rfl (hb hby d15_25) (by decide) (by decide) k_) ?_
      have E_a1_11 : Exa Z h10 a1 "com/example/hedgewalk/hedgewalk/input/ChildCounts" := (Exa.wr W10 E_a1)
      have F_names_12 : Fld Z h10 a1 "com/example/hedgewalk/hedgewalk/input/ChildCounts" "names" "[Ljava/lang/String;" (.ref bn) := (Fld.other W10 F_names (Or.inl ne1))
      have F_counts_13 : Fld Z h10 a1 "com/example/hedgewalk/hedgewalk/input/ChildCounts" "counts" "[J" (.ref bc) := (Fld.other W10 F_counts (Or.inl ne1))
      have F_used_14 : Fld Z h10 a1 "com/example/hedgewalk/hedgewalk/input/ChildCounts" "used" "[I" (.ref bu) := (Fld.other W10 F_used (Or.inl ne1))
      have F_size_15 : Fld Z h10 a1 "com/example/hedgewalk/hedgewalk/input/ChildCounts" "size" "I" (.int (Int32.ofNat k)) := (Fld.other W10 F_size (Or.inl ne1))
      have O_bn_16 : own_Ovr Z h10 bn "java/lang/String" := (own_Ovr.wr O_bn W10)
      have V_bc_17 : own_Arr Z h10 bc .long (ct.map Value.long) := (own_Arr.other V_bc W10 (Ne.symm ne4))
      have V_bu_18 : own_Arr Z h10 bu .int (un.map Value.int) := (own_Arr.other V_bu W10 (Ne.symm ne5))
      have C1_19 : Sta Z h10 "java/lang/String" "COMPACT_STRINGS" "Z" (.int cs) := (Sta.wr W10 C1)
      have M1_20 : own_Strs Z h10 n0 S := (own_Strs.wrA M1 W10 V_bn (by decide) (own_w hw 14 rfl))
      exact ih _ _ _ _ (I + 1) (w.set q .null) (kw.set q none) X10 e10 N10 sz10 (by omega) (own_inc hi (by omega)) C1_19 M1_20 ⟨E_a1_11, F_names_12, F_counts_13, F_used_14, F_size_15, V10_0, O_bn_16, V_bc_17, V_bu_18, g_a1, g_bn, g_bc, g_bu⟩ (HRw.clr (by omega)) (by rw [List.length_set]; exact hlw) (own_clr hq1 (by omega) (by omega) Hw)
  show own_Go p e below _ s₁ (mkF m 0 #[.val (.ref a1), .unset] [])
  refine own_by (fun t_ k_ => XS.iconst X0.here hx rfl (hb hby d15_0) k_) ?_
  show own_Go p e below _ s₁ (mkF m 1 #[.val (.ref a1), .unset] [(.int (0 : Int32))])
  refine own_by (fun t_ k_ => XS.istoreN X0.here hx rfl (hb hby d15_1) rfl (l' := #[.val (.ref a1), .val (.int (0 : Int32))]) rfl k_) ?_
  exact lp k _ _ _ _ 0 vs ks X0 e0 N0 Z0 (by omega) (by decide) S_cs HS HT HR rfl (fun j d hj => by obtain ⟨i, q1, q2⟩ := HI.2.2.2.2.1 j d hj; exact ⟨i, Nat.zero_le _, q1, q2⟩)
theorem ef_16 (m : MethodId) (a1 : Addr) (a2 : Addr) : entryFrame m #[(.ref a1), (.ref a2)] 2 = mkF m 0 #[.val (.ref a1), .val (.ref a2)] [] := by first | (simp [entryFrame, mkF, argsToLocals, Value.category]; done) | rfl
set_option maxRecDepth 65536 in
set_option maxHeartbeats 40000000 in
theorem rm16 (l : Launch) (Z : State) (a0 : Array Value) (hw : ∀ d ∈ tables_1, d.before a0 Z = true) (ws : List Jvm.Cond) (a1 : Addr) (a2 : Addr) (d1 : Int32) (d2 : Int32) (cs : Int32) (h0 : Heap) (n0 : Nat) (Z0 : n0 ≤ h0.size) (S_cs : Sta Z h0 "java/lang/String" "COMPACT_STRINGS" "Z" (.int cs)) (hcs : ¬ cs = 0) (n1 : own_Nm Z h0 a1 d1) (n2 : own_Nm Z h0 a2 d2) (o1 : own_Ok d1) (o2 : own_Ok d2) :
    MetFree l (⟨"com/example/hedgewalk/hedgewalk/input/ChildCountsClearPinLaw", "eq", "(Ljava/lang/String;Ljava/lang/String;)J"⟩ : MethodName) (head1 (Jvm.Cond.code (⟨"com/example/hedgewalk/hedgewalk/input/ChildCountsClearPinLaw", "eq", "(Ljava/lang/String;Ljava/lang/String;)J"⟩ : MethodName) method_3_code 2 (some .long) :: ws) ({ frames := 2, cells := 0, slots := 0, locals := 30 } : Room)) (fun a U => a = #[(.ref a1), (.ref a2)] ∧ Z.Warmed39 U.vm ∧ U.heap = h0) (fun _ _ _ _ _ => True) (fun _ U o U' => ∃ v L, o = .returned v ∧ QJ (if d1 = d2 then 1 else 0) h0 n0 v U'.heap L ∧ FrameEnd U o U' L ({ frames := 2, cells := 0, slots := 0, locals := 30 } : Room).cells ({ frames := 2, cells := 0, slots := 0, locals := 30 } : Room).slots) := by
  refine MetFree.of_bodySF (plainFor_of_name pn_0) hisR ?_
  intro p e s m args below meth c s₁ Bd hml0 hP hK
  obtain ⟨rfl, hZ, hh⟩ := hP
  have hx := Bd.exec
  have hby := Bd.bytes
  have hml : c.maxLocals = 2 := hml0
  have hown : s.vm.findClass "com/example/hedgewalk/hedgewalk/input/ChildCountsClearPinLaw" = some m.cls := findClass_of_methodNamed Bd.named
  have hnm := (name_of_methodNamed Bd.named Bd.method).1
  have hlk : meth.locks = false := BodyLoose.notSynchronized Bd
  have X0 : Stand p l e ({ frames := 2, cells := 0, slots := 0, locals := 30 } : Room) s m #[(.ref a1), (.ref a2)] below meth c s₁ [] 0 0 := Stand.of_body Bd
  have e0 : s₁.heap = h0 := by rw [← hh, Bd.state]; rfl
  have N0 := Fr.nil n0
  refine own_start (Q := QJ (if d1 = d2 then 1 else 0) h0 n0) (ef_16 m a1 a2) ?_
  obtain ⟨t1, s1, z1, E_1, C_1, F_1, -, -, V_1, -⟩ := n1
  obtain ⟨t2, s2, z2, E_2, C_2, F_2, -, -, V_2, -⟩ := n2
  show own_Go p e below _ s₁ (mkF m 0 #[.val (.ref a1), .val (.ref a2)] [])
  refine own_by (fun t_ k_ => XS.aloadN X0.here hx rfl (hb hby d16_0) rfl rfl k_) ?_
  show own_Go p e below _ s₁ (mkF m 1 #[.val (.ref a1), .val (.ref a2)] [(.ref a1)])
  refine own_by (fun t_ k_ => XS.aloadN X0.here hx rfl (hb hby d16_1) rfl rfl k_) ?_
  show own_Go p e below _ s₁ (mkF m 2 #[.val (.ref a1), .val (.ref a2)] [(.ref a2), (.ref a1)])
  refine own_callV (W := 0) X0 hx hZ (y := (⟨"java/lang/String", "equals", "(Ljava/lang/Object;)Z"⟩ : MethodName)) (z := (⟨"java/lang/String", "equals", "(Ljava/lang/Object;)Z"⟩ : MethodName)) hown (own_w hw 91 rfl) (own_w hw 76 rfl) (notFace_of_selects (args := #[]) (mvT hZ (own_w hw 78 rfl))) (own_w hw 78 rfl) (own_w hw 77 rfl) (own_w hw 6 rfl) (own_w hw 79 rfl) (by decide) (by rw [hml]; rfl) (argsL := [(.ref a2)]) pd_11 rfl (a := a1) e0 E_1 (rm13 l Z a0 hw [] a1 a2 t1 t2 [own_by8 d1] [own_by8 d2] cs h0 n0 Z0 E_1 C_1 F_1 V_1 E_2 C_2 F_2 V_2 S_cs hcs) (by decide) (by decide) (Nat.le_of_eq rfl) (by decide) (by decide) (rest := []) rfl (hb hby d16_2) ?_
  intro v1 T1 L1 X1 hQ1
  obtain ⟨rfl, N1q, e1⟩ := hQ1
  have N1 := Fr.app N0 N1q
  show own_Go p e below _ T1 (mkF m 5 #[.val (.ref a1), .val (.ref a2)] [(.int (own_eqv [own_by8 d1] [own_by8 d2]))])
  refine own_if X1 hx 12 (hb hby d16_5) (by decide) (by decide) (fun (hc5 : (own_eqv [own_by8 d1] [own_by8 d2]) = (0 : Int32)) => ?_) (fun (hc5 : ¬ (own_eqv [own_by8 d1] [own_by8 d2]) = (0 : Int32)) => ?_)
  · show own_Go p e below _ T1 (mkF m 12 #[.val (.ref a1), .val (.ref a2)] [])
    refine own_by (fun t_ k_ => XT.lconst X1.here hx rfl (hb hby d16_12) k_) ?_
    show own_Go p e below _ T1 (mkF m 13 #[.val (.ref a1), .val (.ref a2)] [(.long (0 : Int64))])
    refine own_retJ X1 hx hlk Bd.returns (hb hby d16_13) e1 (by decide) (by decide) ?_
    have q : ¬ d1 = d2 := fun z => by rw [own_eq1 o1 o2, if_pos z] at hc5; exact absurd hc5 (by decide)
    exact ⟨by rw [if_neg q], N1, rfl⟩
  · show own_Go p e below _ T1 (mkF m 8 #[.val (.ref a1), .val (.ref a2)] [])
    refine own_by (fun t_ k_ => XT.lconst X1.here hx rfl (hb hby d16_8) k_) ?_
    show own_Go p e below _ T1 (mkF m 9 #[.val (.ref a1), .val (.ref a2)] [(.long (1 : Int64))])
    refine own_by (fun t_ k_ => XS.goto X1.here hx rfl (pc0 := 9) (pc' := 13) rfl (hb hby d16_9) (by decide) (by decide) k_) ?_
    show own_Go p e below _ T1 (mkF m 13 #[.val (.ref a1), .val (.ref a2)] [(.long (1 : Int64))])
    refine own_retJ X1 hx hlk Bd.returns (hb hby d16_13) e1 (by decide) (by decide) ?_
    have q : d1 = d2 := Classical.byContradiction fun z => hc5 (by rw [own_eq1 o1 o2, if_neg z])
    exact ⟨by rw [if_pos q], N1, rfl⟩
theorem ef_0 (m : MethodId) (x1 : Int32) (x2 : Int32) (x3 : Int32) (x4 : Int32) : entryFrame m #[(.int x1), (.int x2), (.int x3), (.int x4)] maxLocals = mkF m 0 #[.val (.int x1), .val (.int x2), .val (.int x3), .val (.int x4), .unset, .unset, .unset, .unset, .unset, .unset, .unset, .unset, .unset, .unset, .unset, .unset, .unset, .unset, .unset, .unset, .unset, .unset, .unset] [] := by first | (simp [entryFrame, mkF, argsToLocals, Value.category, maxLocals]; done) | rfl
set_option maxRecDepth 65536 in
set_option maxHeartbeats 40000000 in
theorem rm0 (l : Launch) (Z : State) (a0 : Array Value) (hw : ∀ d ∈ tables_1, d.before a0 Z = true) (ws : List Jvm.Cond) (x1 : Int32) (x2 : Int32) (x3 : Int32) (x4 : Int32) (cs : Int32) (h0 : Heap) (n0 : Nat) (Z0 : n0 ≤ h0.size) (S_cs : Sta Z h0 "java/lang/String" "COMPACT_STRINGS" "Z" (.int cs)) (hcs : ¬ cs = 0) :
    MetFree l x (head1 (Jvm.Cond.code x code maxLocals ret :: ws) room_1) (fun a U => a = #[(.int x1), (.int x2), (.int x3), (.int x4)] ∧ Z.Warmed39 U.vm ∧ U.heap = h0) (fun _ _ _ _ _ => True) (fun _ U o U' => ∃ v L, o = .returned v ∧ Q0 n0 v U'.heap L ∧ FrameEnd U o U' L room_1.cells room_1.slots) := by
  refine MetFree.of_bodySF (plainFor_of_name pn_0) hisR ?_
  intro p e s m args below meth c s₁ Bd hml0 hP hK
  obtain ⟨rfl, hZ, hh⟩ := hP
  have hx := Bd.exec
  have hby := Bd.bytes
  have hml : c.maxLocals = 23 := hml0
  have hown : s.vm.findClass "com/example/hedgewalk/hedgewalk/input/ChildCountsClearPinLaw" = some m.cls := findClass_of_methodNamed Bd.named
  have hnm := (name_of_methodNamed Bd.named Bd.method).1
  have hlk : meth.locks = false := BodyLoose.notSynchronized Bd
  have X0 : Stand p l e room_1 s m #[(.int x1), (.int x2), (.int x3), (.int x4)] below meth c s₁ [] 0 0 := Stand.of_body Bd
  have e0 : s₁.heap = h0 := by rw [← hh, Bd.state]; rfl
  have N0 := Fr.nil n0
  refine own_start (Q := Q0 n0) (ef_0 m x1 x2 x3 x4) ?_
  show own_Go p e below _ s₁ (mkF m 0 #[.val (.int x1), .val (.int x2), .val (.int x3), .val (.int x4), .unset, .unset, .unset, .unset, .unset, .unset, .unset, .unset, .unset, .unset, .unset, .unset, .unset, .unset, .unset, .unset, .unset, .unset, .unset] [])
  refine own_by (fun t_ k_ => XS.iloadN X0.here hx rfl (hb hby at_0) rfl k_) ?_
  show own_Go p e below _ s₁ (mkF m 1 #[.val (.int x1), .val (.int x2), .val (.int x3), .val (.int x4), .unset, .unset, .unset, .unset, .unset, .unset, .unset, .unset, .unset, .unset, .unset, .unset, .unset, .unset, .unset, .unset, .unset, .unset, .unset] [(.int x1)])
  refine own_callS (W := 0) X0 hx hZ (y := (⟨"com/example/hedgewalk/hedgewalk/input/ChildCountsClearPinLaw", "name", "(I)Ljava/lang/String;"⟩ : MethodName)) hown (own_w hw 0 rfl) (own_w hw 1 rfl) (own_w hw 2 rfl) (own_w hw 3 rfl) (by decide) (by rw [hml]; rfl) (argsL := [(.int x1)]) pd_0 rfl (rm1 l Z a0 hw [] x1 cs h0 n0 Z0 S_cs hcs) (by decide) (by decide) (Nat.le_of_eq rfl) (by decide) (by decide) (rest := []) e0 rfl (hb hby at_1) ?_
  intro v1 T1 L1 X1 hQ1
  obtain ⟨r1, rfl, N1q, K1q, hb1, gr1, HN1⟩ := hQ1
  have N1 := Fr.app N0 N1q
  have sz1 : n0 ≤ T1.heap.size := Nat.le_trans Z0 K1q.1
  show own_Go p e below _ T1 (mkF m 4 #[.val (.int x1), .val (.int x2), .val (.int x3), .val (.int x4), .unset, .unset, .unset, .unset, .unset, .unset, .unset, .unset, .unset, .unset, .unset, .unset, .unset, .unset, .unset, .unset, .unset, .unset, .unset] [(.ref r1)])
  refine own_by (fun t_ k_ => XS.astore X1.here hx rfl (hb hby at_4) rfl rfl (l' := #[.val (.int x1), .val (.int x2), .val (.int x3), .val (.int x4), .val (.ref r1), .unset, .unset, .unset, .unset, .unset, .unset, .unset, .unset, .unset, .unset, .unset, .unset, .unset, .unset, .unset, .unset, .unset, .unset]) rfl k_) ?_
  show own_Go p e below _ T1 (mkF m 6 #[.val (.int x1), .val (.int x2), .val (.int x3), .val (.int x4), .val (.ref r1), .unset, .unset, .unset, .unset, .unset, .unset, .unset, .unset, .unset, .unset, .unset, .unset, .unset, .unset, .unset, .unset, .unset, .unset] [])
  refine own_by (fun t_ k_ => XS.iloadN X1.here hx rfl (hb hby at_6) rfl k_) ?_
  show own_Go p e below _ T1 (mkF m 7 #[.val (.int x1), .val (.int x2), .val (.int x3), .val (.int x4), .val (.ref r1), .unset, .unset, .unset, .unset, .unset, .unset, .unset, .unset, .unset, .unset, .unset, .unset, .unset, .unset, .unset, .unset, .unset, .unset] [(.int x2)])
  have S_cs_2 : Sta Z T1.heap "java/lang/String" "COMPACT_STRINGS" "Z" (.int cs) := (own_Sta_keep S_cs K1q ns0)
  refine own_callS (W := 0) X1 hx hZ (y := (⟨"com/example/hedgewalk/hedgewalk/input/ChildCountsClearPinLaw", "name", "(I)Ljava/lang/String;"⟩ : MethodName)) hown (own_w hw 0 rfl) (own_w hw 1 rfl) (own_w hw 2 rfl) (own_w hw 3 rfl) (by decide) (by rw [hml]; rfl) (argsL := [(.int x2)]) pd_0 rfl (rm1 l Z a0 hw [] x2 cs T1.heap n0 sz1 S_cs_2 hcs) (by decide) (by decide) (Nat.le_of_eq rfl) (by decide) (by decide) (rest := []) rfl rfl (hb hby at_7) ?_
  intro v3 T3 L3 X3 hQ3
  obtain ⟨r3, rfl, N3q, K3q, hb3, gr3, HN3⟩ := hQ3
  have N3 := Fr.app N1 N3q
  have sz3 : n0 ≤ T3.heap.size := Nat.le_trans sz1 K3q.1
  show own_Go p e below _ T3 (mkF m 10 #[.val (.int x1), .val (.int x2), .val (.int x3), .val (.int x4), .val (.ref r1), .unset, .unset, .unset, .unset, .unset, .unset, .unset, .unset, .unset, .unset, .unset, .unset, .unset, .unset, .unset, .unset, .unset, .unset] [(.ref r3)])
  refine own_by (fun t_ k_ => XS.astore X3.here hx rfl (hb hby at_10) rfl rfl (l' := #[.val (.int x1), .val (.int x2), .val (.int x3), .val (.int x4), .val (.ref r1), .val (.ref r3), .unset, .unset, .unset, .unset, .unset, .unset, .unset, .unset, .unset, .unset, .unset, .unset, .unset, .unset, .unset, .unset, .unset]) rfl k_) ?_
  show own_Go p e below _ T3 (mkF m 12 #[.val (.int x1), .val (.int x2), .val (.int x3), .val (.int x4), .val (.ref r1), .val (.ref r3), .unset, .unset, .unset, .unset, .unset, .unset, .unset, .unset, .unset, .unset, .unset, .unset, .unset, .unset, .unset, .unset, .unset] [])
  refine own_by (fun t_ k_ => XS.iloadN X3.here hx rfl (hb hby at_12) rfl k_) ?_
  show own_Go p e below _ T3 (mkF m 13 #[.val (.int x1), .val (.int x2), .val (.int x3), .val (.int x4), .val (.ref r1), .val (.ref r3), .unset, .unset, .unset, .unset, .unset, .unset, .unset, .unset, .unset, .unset, .unset, .unset, .unset, .unset, .unset, .unset, .unset] [(.int x3)])
  have S_cs_4 : Sta Z T3.heap "java/lang/String" "COMPACT_STRINGS" "Z" (.int cs) := (own_Sta_keep S_cs_2 K3q ns0)
  refine own_callS (W := 0) X3 hx hZ (y := (⟨"com/example/hedgewalk/hedgewalk/input/ChildCountsClearPinLaw", "name", "(I)Ljava/lang/String;"⟩ : MethodName)) hown (own_w hw 0 rfl) (own_w hw 1 rfl) (own_w hw 2 rfl) (own_w hw 3 rfl) (by decide) (by rw [hml]; rfl) (argsL := [(.int x3)]) pd_0 rfl (rm1 l Z a0 hw [] x3 cs T3.heap n0 sz3 S_cs_4 hcs) (by decide) (by decide) (Nat.le_of_eq rfl) (by decide) (by decide) (rest := []) rfl rfl (hb hby at_13) ?_
  intro v5 T5 L5 X5 hQ5
  obtain ⟨r5, rfl, N5q, K5q, hb5, gr5, HN5⟩ := hQ5
  have N5 := Fr.app N3 N5q
  have sz5 : n0 ≤ T5.heap.size := Nat.le_trans sz3 K5q.1
  show own_Go p e below _ T5 (mkF m 16 #[.val (.int x1), .val (.int x2), .val (.int x3), .val (.int x4), .val (.ref r1), .val (.ref r3), .unset, .unset, .unset, .unset, .unset, .unset, .unset, .unset, .unset, .unset, .unset, .unset, .unset, .unset, .unset, .unset, .unset] [(.ref r5)])
  refine own_by (fun t_ k_ => XS.astore X5.here hx rfl (hb hby at_16) rfl rfl (l' := #[.val (.int x1), .val (.int x2), .val (.int x3), .val (.int x4), .val (.ref r1), .val (.ref r3), .val (.ref r5), .unset, .unset, .unset, .unset, .unset, .unset, .unset, .unset, .unset, .unset, .unset, .unset, .unset, .unset, .unset, .unset]) rfl k_) ?_
  show own_Go p e below _ T5 (mkF m 18 #[.val (.int x1), .val (.int x2), .val (.int x3), .val (.int x4), .val (.ref r1), .val (.ref r3), .val (.ref r5), .unset, .unset, .unset, .unset, .unset, .unset, .unset, .unset, .unset, .unset, .unset, .unset, .unset, .unset, .unset, .unset] [])
  refine own_by (fun t_ k_ => XS.iloadN X5.here hx rfl (hb hby at_18) rfl k_) ?_
  show own_Go p e below _ T5 (mkF m 19 #[.val (.int x1), .val (.int x2), .val (.int x3), .val (.int x4), .val (.ref r1), .val (.ref r3), .val (.ref r5), .unset, .unset, .unset, .unset, .unset, .unset, .unset, .unset, .unset, .unset, .unset, .unset, .unset, .unset, .unset, .unset] [(.int x1)])
  refine own_by (fun t_ k_ => XS.bipush X5.here hx rfl (hb hby at_19) k_) ?_
  show own_Go p e below _ T5 (mkF m 21 #[.val (.int x1), .val (.int x2), .val (.int x3), .val (.int x4), .val (.ref r1), .val (.ref r3), .val (.ref r5), .unset, .unset, .unset, .unset, .unset, .unset, .unset, .unset, .unset, .unset, .unset, .unset, .unset, .unset, .unset, .unset] [(.int (8 : Int32)), (.int x1)])
  refine own_by (fun t_ k_ => XT.iushr X5.here hx rfl (hb hby at_21) rfl k_) ?_
  show own_Go p e below _ T5 (mkF m 22 #[.val (.int x1), .val (.int x2), .val (.int x3), .val (.int x4), .val (.ref r1), .val (.ref r3), .val (.ref r5), .unset, .unset, .unset, .unset, .unset, .unset, .unset, .unset, .unset, .unset, .unset, .unset, .unset, .unset, .unset, .unset] [(.int (XT.ushr x1 (8 : Int32)))])
  have S_cs_6 : Sta Z T5.heap "java/lang/String" "COMPACT_STRINGS" "Z" (.int cs) := (own_Sta_keep S_cs_4 K5q ns0)
  refine own_callS (W := 0) X5 hx hZ (y := (⟨"com/example/hedgewalk/hedgewalk/input/ChildCountsClearPinLaw", "name", "(I)Ljava/lang/String;"⟩ : MethodName)) hown (own_w hw 0 rfl) (own_w hw 1 rfl) (own_w hw 2 rfl) (own_w hw 3 rfl) (by decide) (by rw [hml]; rfl) (argsL := [(.int (XT.ushr x1 (8 : Int32)))]) pd_0 rfl (rm1 l Z a0 hw [] (XT.ushr x1 (8 : Int32)) cs T5.heap n0 sz5 S_cs_6 hcs) (by decide) (by decide) (Nat.le_of_eq rfl) (by decide) (by decide) (rest := []) rfl rfl (hb hby at_22) ?_
  intro v7 T7 L7 X7 hQ7
  obtain ⟨r7, rfl, N7q, K7q, hb7, gr7, HN7⟩ := hQ7
  have N7 := Fr.app N5 N7q
  have sz7 : n0 ≤ T7.heap.size := Nat.le_trans sz5 K7q.1
  show own_Go p e below _ T7 (mkF m 25 #[.val (.int x1), .val (.int x2), .val (.int x3), .val (.int x4), .val (.ref r1), .val (.ref r3), .val (.ref r5), .unset, .unset, .unset, .unset, .unset, .unset, .unset, .unset, .unset, .unset, .unset, .unset, .unset, .unset, .unset, .unset] [(.ref r7)])
  refine own_by (fun t_ k_ => XS.astore X7.here hx rfl (hb hby at_25) rfl rfl (l' := #[.val (.int x1), .val (.int x2), .val (.int x3), .val (.int x4), .val (.ref r1), .val (.ref r3), .val (.ref r5), .val (.ref r7), .unset, .unset, .unset, .unset, .unset, .unset, .unset, .unset, .unset, .unset, .unset, .unset, .unset, .unset, .unset]) rfl k_) ?_
  show own_Go p e below _ T7 (mkF m 27 #[.val (.int x1), .val (.int x2), .val (.int x3), .val (.int x4), .val (.ref r1), .val (.ref r3), .val (.ref r5), .val (.ref r7), .unset, .unset, .unset, .unset, .unset, .unset, .unset, .unset, .unset, .unset, .unset, .unset, .unset, .unset, .unset] [])
  refine own_by (fun t_ k_ => XS.iloadN X7.here hx rfl (hb hby at_27) rfl k_) ?_
  show own_Go p e below _ T7 (mkF m 28 #[.val (.int x1), .val (.int x2), .val (.int x3), .val (.int x4), .val (.ref r1), .val (.ref r3), .val (.ref r5), .val (.ref r7), .unset, .unset, .unset, .unset, .unset, .unset, .unset, .unset, .unset, .unset, .unset, .unset, .unset, .unset, .unset] [(.int x2)])
  refine own_by (fun t_ k_ => XS.bipush X7.here hx rfl (hb hby at_28) k_) ?_
  show own_Go p e below _ T7 (mkF m 30 #[.val (.int x1), .val (.int x2), .val (.int x3), .val (.int x4), .val (.ref r1), .val (.ref r3), .val (.ref r5), .val (.ref r7), .unset, .unset, .unset, .unset, .unset, .unset, .unset, .unset, .unset, .unset, .unset, .unset, .unset, .unset, .unset] [(.int (8 : Int32)), (.int x2)])
  refine own_by (fun t_ k_ => XT.iushr X7.here hx rfl (hb hby at_30) rfl k_) ?_
  show own_Go p e below _ T7 (mkF m 31 #[.val (.int x1), .val (.int x2), .val (.int x3), .val (.int x4), .val (.ref r1), .val (.ref r3), .val (.ref r5), .val (.ref r7), .unset, .unset, .unset, .unset, .unset, .unset, .unset, .unset, .unset, .unset, .unset, .unset, .unset, .unset, .unset] [(.int (XT.ushr x2 (8 : Int32)))])
  have S_cs_8 : Sta Z T7.heap "java/lang/String" "COMPACT_STRINGS" "Z" (.int cs) := (own_Sta_keep S_cs_6 K7q ns0)
  refine own_callS (W := 0) X7 hx hZ (y := (⟨"com/example/hedgewalk/hedgewalk/input/ChildCountsClearPinLaw", "name", "(I)Ljava/lang/String;"⟩ : MethodName)) hown (own_w hw 0 rfl) (own_w hw 1 rfl) (own_w hw 2 rfl) (own_w hw 3 rfl) (by decide) (by rw [hml]; rfl) (argsL := [(.int (XT.ushr x2 (8 : Int32)))]) pd_0 rfl (rm1 l Z a0 hw [] (XT.ushr x2 (8 : Int32)) cs T7.heap n0 sz7 S_cs_8 hcs) (by decide) (by decide) (Nat.le_of_eq rfl) (by decide) (by decide) (rest := []) rfl rfl (hb hby at_31) ?_
  intro v9 T9 L9 X9 hQ9
  obtain ⟨r9, rfl, N9q, K9q, hb9, gr9, HN9⟩ := hQ9
  have N9 := Fr.app N7 N9q
  have sz9 : n0 ≤ T9.heap.size := Nat.le_trans sz7 K9q.1
  show own_Go p e below _ T9 (mkF m 34 #[.val (.int x1), .val (.int x2), .val (.int x3), .val (.int x4), .val (.ref r1), .val (.ref r3), .val (.ref r5), .val (.ref r7), .unset, .unset, .unset, .unset, .unset, .unset, .unset, .unset, .unset, .unset, .unset, .unset, .unset, .unset, .unset] [(.ref r9)])
  refine own_by (fun t_ k_ => XS.astore X9.here hx rfl (hb hby at_34) rfl rfl (l' := #[.val (.int x1), .val (.int x2), .val (.int x3), .val (.int x4), .val (.ref r1), .val (.ref r3), .val (.ref r5), .val (.ref r7), .val (.ref r9), .unset, .unset, .unset, .unset, .unset, .unset, .unset, .unset, .unset, .unset, .unset, .unset, .unset, .unset]) rfl k_) ?_
  show own_Go p e below _ T9 (mkF m 36 #[.val (.int x1), .val (.int x2), .val (.int x3), .val (.int x4), .val (.ref r1), .val (.ref r3), .val (.ref r5), .val (.ref r7), .val (.ref r9), .unset, .unset, .unset, .unset, .unset, .unset, .unset, .unset, .unset, .unset, .unset, .unset, .unset, .unset] [])
  refine own_by (fun t_ k_ => XS.iloadN X9.here hx rfl (hb hby at_36) rfl k_) ?_
  show own_Go p e below _ T9 (mkF m 37 #[.val (.int x1), .val (.int x2), .val (.int x3), .val (.int x4), .val (.ref r1), .val (.ref r3), .val (.ref r5), .val (.ref r7), .val (.ref r9), .unset, .unset, .unset, .unset, .unset, .unset, .unset, .unset, .unset, .unset, .unset, .unset, .unset, .unset] [(.int x4)])
  have S_cs_10 : Sta Z T9.heap "java/lang/String" "COMPACT_STRINGS" "Z" (.int cs) := (own_Sta_keep S_cs_8 K9q ns0)
  refine own_callS (W := 0) X9 hx hZ (y := (⟨"com/example/hedgewalk/hedgewalk/input/ChildCountsClearPinLaw", "name", "(I)Ljava/lang/String;"⟩ : MethodName)) hown (own_w hw 0 rfl) (own_w hw 1 rfl) (own_w hw 2 rfl) (own_w hw 3 rfl) (by decide) (by rw [hml]; rfl) (argsL := [(.int x4)]) pd_0 rfl (rm1 l Z a0 hw [] x4 cs T9.heap n0 sz9 S_cs_10 hcs) (by decide) (by decide) (Nat.le_of_eq rfl) (by decide) (by decide) (rest := []) rfl rfl (hb hby at_37) ?_
  intro v11 T11 L11 X11 hQ11
  obtain ⟨r11, rfl, N11q, K11q, hb11, gr11, HN11⟩ := hQ11
  have N11 := Fr.app N9 N11q
  have sz11 : n0 ≤ T11.heap.size := Nat.le_trans sz9 K11q.1
  show own_Go p e below _ T11 (mkF m 40 #[.val (.int x1), .val (.int x2), .val (.int x3), .val (.int x4), .val (.ref r1), .val (.ref r3), .val (.ref r5), .val (.ref r7), .val (.ref r9), .unset, .unset, .unset, .unset, .unset, .unset, .unset, .unset, .unset, .unset, .unset, .unset, .unset, .unset] [(.ref r11)])
  refine own_by (fun t_ k_ => XS.astore X11.here hx rfl (hb hby at_40) rfl rfl (l' := #[.val (.int x1), .val (.int x2), .val (.int x3), .val (.int x4), .val (.ref r1), .val (.ref r3), .val (.ref r5), .val (.ref r7), .val (.ref r9), .val (.ref r11), .unset, .unset, .unset, .unset, .unset, .unset, .unset, .unset, .unset, .unset, .unset, .unset, .unset]) rfl k_) ?_
  show own_Go p e below _ T11 (mkF m 42 #[.val (.int x1), .val (.int x2), .val (.int x3), .val (.int x4), .val (.ref r1), .val (.ref r3), .val (.ref r5), .val (.ref r7), .val (.ref r9), .val (.ref r11), .unset, .unset, .unset, .unset, .unset, .unset, .unset, .unset, .unset, .unset, .unset, .unset, .unset] [])
  refine own_newO X11 hx hZ hown (own_w hw 30 rfl) (own_w hw 31 rfl) (own_w hw 32 rfl) rfl (hb hby at_42) (by decide) (by decide) ?_
  intro T12 h12 b12 X12 e12 g12 E12 A12 D12
  have g_b12 : n0 ≤ b12 := Nat.le_trans sz11 (Nat.le_of_eq g12.symm)
  have sz12 : n0 ≤ h12.size := Nat.le_trans sz11 E12.1
  have F13_0 : Fld Z h12 b12 "com/example/hedgewalk/hedgewalk/input/ChildCounts" "names" "[Ljava/lang/String;" .null := D12 (Or.inl (own_w hw 40 rfl)) (ty := (.array (.object "java/lang/String"))) (by decide)
  have F14_0 : Fld Z h12 b12 "com/example/hedgewalk/hedgewalk/input/ChildCounts" "counts" "[J" .null := D12 (Or.inl (own_w hw 43 rfl)) (ty := (.array .long)) (by decide)
  have F15_0 : Fld Z h12 b12 "com/example/hedgewalk/hedgewalk/input/ChildCounts" "used" "[I" .null := D12 (Or.inl (own_w hw 46 rfl)) (ty := (.array .int)) (by decide)
  have F16_0 : Fld Z h12 b12 "com/example/hedgewalk/hedgewalk/input/ChildCounts" "size" "I" (.int (0 : Int32)) := D12 (Or.inl (own_w hw 74 rfl)) (ty := .int) (by decide)
  show own_Go p e below _ T12 (mkF m 45 #[.val (.int x1), .val (.int x2), .val (.int x3), .val (.int x4), .val (.ref r1), .val (.ref r3), .val (.ref r5), .val (.ref r7), .val (.ref r9), .val (.ref r11), .unset, .unset, .unset, .unset, .unset, .unset, .unset, .unset, .unset, .unset, .unset, .unset, .unset] [(.ref b12)])
  refine own_by (fun t_ k_ => XS.dup X12.here hx rfl (hb hby at_45) rfl rfl k_) ?_
  show own_Go p e below _ T12 (mkF m 46 #[.val (.int x1), .val (.int x2), .val (.int x3), .val (.int x4), .val (.ref r1), .val (.ref r3), .val (.ref r5), .val (.ref r7), .val (.ref r9), .val (.ref r11), .unset, .unset, .unset, .unset, .unset, .unset, .unset, .unset, .unset, .unset, .unset, .unset, .unset] [(.ref b12), (.ref b12)])
  refine own_callC (W := 1) X12 hx hZ (y := (⟨"com/example/hedgewalk/hedgewalk/input/ChildCounts", "<init>", "()V"⟩ : MethodName)) rfl hown (own_w hw 33 rfl) (own_w hw 34 rfl) (own_w hw 32 rfl) (own_w hw 35 rfl) (by decide) (by rw [hml]; rfl) (argsL := []) pd_5 rfl (a := b12) (rm7 l Z a0 hw [] b12 h12 n0 sz12 A12 F13_0 F14_0 F15_0 F16_0 g_b12) (by decide) (by decide) (Nat.le_of_eq rfl) (by decide) (by decide) (rest := [(.ref b12)]) e12 rfl (hb hby at_46) ?_
  intro v17 T17 L17 X17 hQ17
  obtain ⟨bn0, bc0, bu0, rfl, N17q, K17q, HU⟩ := hQ17
  have N17 := Fr.app N11 N17q
  have sz17 : n0 ≤ T17.heap.size := Nat.le_trans sz12 K17q.1
  have HN1_18 : own_Nm Z T17.heap r1 (x1 &&& 255) := (own_Nm.keepE (own_Nm.ext (own_Nm.keep0 (own_Nm.keep0 (own_Nm.keep0 (own_Nm.keep0 (own_Nm.keep0 HN1 K3q) K5q) K7q) K9q) K11q) E12) K17q A12 (own_w hw 31 rfl))
  have HN3_19 : own_Nm Z T17.heap r3 (x2 &&& 255) := (own_Nm.keepE (own_Nm.ext (own_Nm.keep0 (own_Nm.keep0 (own_Nm.keep0 (own_Nm.keep0 HN3 K5q) K7q) K9q) K11q) E12) K17q A12 (own_w hw 31 rfl))
  have HN5_20 : own_Nm Z T17.heap r5 (x3 &&& 255) := (own_Nm.keepE (own_Nm.ext (own_Nm.keep0 (own_Nm.keep0 (own_Nm.keep0 HN5 K7q) K9q) K11q) E12) K17q A12 (own_w hw 31 rfl))
  have HN7_21 : own_Nm Z T17.heap r7 ((XT.ushr x1 (8 : Int32)) &&& 255) := (own_Nm.keepE (own_Nm.ext (own_Nm.keep0 (own_Nm.keep0 HN7 K9q) K11q) E12) K17q A12 (own_w hw 31 rfl))
  have HN9_22 : own_Nm Z T17.heap r9 ((XT.ushr x2 (8 : Int32)) &&& 255) := (own_Nm.keepE (own_Nm.ext (own_Nm.keep0 HN9 K11q) E12) K17q A12 (own_w hw 31 rfl))
  have HN11_23 : own_Nm Z T17.heap r11 (x4 &&& 255) := (own_Nm.keepE (own_Nm.ext HN11 E12) K17q A12 (own_w hw 31 rfl))
  obtain ⟨S, hS⟩ : ∃ S : List (Addr × Int32), S = [(r1, (x1 &&& 255)), (r3, (x2 &&& 255)), (r5, (x3 &&& 255)), (r7, ((XT.ushr x1 (8 : Int32)) &&& 255)), (r9, ((XT.ushr x2 (8 : Int32)) &&& 255)), (r11, (x4 &&& 255))] := ⟨_, rfl⟩
  have M17 : own_Strs Z T17.heap n0 S := by
    rw [hS]; intro y hy
    simp only [List.mem_cons, List.not_mem_nil, or_false] at hy
    rcases hy with rfl | rfl | rfl | rfl | rfl | rfl
    · exact ⟨HN1_18, own_mok _, gr1⟩
    · exact ⟨HN3_19, own_mok _, gr3⟩
    · exact ⟨HN5_20, own_mok _, gr5⟩
    · exact ⟨HN7_21, own_mok _, gr7⟩
    · exact ⟨HN9_22, own_mok _, gr9⟩
    · exact ⟨HN11_23, own_mok _, gr11⟩
  have hm_r1 : (r1, (x1 &&& 255)) ∈ S := by rw [hS]; simp
  have hm_r3 : (r3, (x2 &&& 255)) ∈ S := by rw [hS]; simp
  have hm_r5 : (r5, (x3 &&& 255)) ∈ S := by rw [hS]; simp
  have hm_r7 : (r7, ((XT.ushr x1 (8 : Int32)) &&& 255)) ∈ S := by rw [hS]; simp
  have hm_r9 : (r9, ((XT.ushr x2 (8 : Int32)) &&& 255)) ∈ S := by rw [hS]; simp
  have hm_r11 : (r11, (x4 &&& 255)) ∈ S := by rw [hS]; simp
  obtain ⟨vs0, ks0, ct0, un0, k0, HT0, hk0⟩ : ∃ (vs : List Value) (ks : List (Option Int32)) (ct : List Int64) (un : List Int32) (k : Nat), own_Tab Z T17.heap n0 b12 bn0 bc0 bu0 vs ks ct un k S ∧ k = 0 := ⟨_, _, _, _, 0, ⟨HU, own_Rel.nil 8, own_Inv.nil (Or.inl rfl) rfl, rfl⟩, rfl⟩
  have hN0 := HT0.2.2.1.1
  have S_cs_24 : Sta Z T17.heap "java/lang/String" "COMPACT_STRINGS" "Z" (.int cs) := (own_Sta_keep (Sta.ext E12 (own_Sta_keep S_cs_10 K11q ns0)) K17q (nsS (Exa.nostat A12) ns0))
  have Eb0 : Exa Z T17.heap b12 "com/example/hedgewalk/hedgewalk/input/ChildCounts" := HT0.1.1
  show own_Go p e below _ T17 (mkF m 49 #[.val (.int x1), .val (.int x2), .val (.int x3), .val (.int x4), .val (.ref r1), .val (.ref r3), .val (.ref r5), .val (.ref r7), .val (.ref r9), .val (.ref r11), .unset, .unset, .unset, .unset, .unset, .unset, .unset, .unset, .unset, .unset, .unset, .unset, .unset] [(.ref b12)])
  refine own_by (fun t_ k_ => XS.astore X17.here hx rfl (hb hby at_49) rfl rfl (l' := #[.val (.int x1), .val (.int x2), .val (.int x3), .val (.int x4), .val (.ref r1), .val (.ref r3), .val (.ref r5), .val (.ref r7), .val (.ref r9), .val (.ref r11), .val (.ref b12), .unset, .unset, .unset, .unset, .unset, .unset, .unset, .unset, .unset, .unset, .unset, .unset]) rfl k_) ?_
  show own_Go p e below _ T17 (mkF m 51 #[.val (.int x1), .val (.int x2), .val (.int x3), .val (.int x4), .val (.ref r1), .val (.ref r3), .val (.ref r5), .val (.ref r7), .val (.ref r9), .val (.ref r11), .val (.ref b12), .unset, .unset, .unset, .unset, .unset, .unset, .unset, .unset, .unset, .unset, .unset, .unset] [])
  refine own_by (fun t_ k_ => XS.aload X17.here hx rfl (hb hby at_51) rfl rfl k_) ?_
  show own_Go p e below _ T17 (mkF m 53 #[.val (.int x1), .val (.int x2), .val (.int x3), .val (.int x4), .val (.ref r1), .val (.ref r3), .val (.ref r5), .val (.ref r7), .val (.ref r9), .val (.ref r11), .val (.ref b12), .unset, .unset, .unset, .unset, .unset, .unset, .unset, .unset, .unset, .unset, .unset, .unset] [(.ref b12)])
  refine own_by (fun t_ k_ => XS.aload X17.here hx rfl (hb hby at_53) rfl rfl k_) ?_
  show own_Go p e below _ T17 (mkF m 55 #[.val (.int x1), .val (.int x2), .val (.int x3), .val (.int x4), .val (.ref r1), .val (.ref r3), .val (.ref r5), .val (.ref r7), .val (.ref r9), .val (.ref r11), .val (.ref b12), .unset, .unset, .unset, .unset, .unset, .unset, .unset, .unset, .unset, .unset, .unset, .unset] [(.ref r1), (.ref b12)])
  refine own_callV (W := 0) X17 hx hZ (y := (⟨"com/example/hedgewalk/hedgewalk/input/ChildCounts", "increment", "(Ljava/lang/String;)J"⟩ : MethodName)) (z := (⟨"com/example/hedgewalk/hedgewalk/input/ChildCounts", "increment", "(Ljava/lang/String;)J"⟩ : MethodName)) hown (own_w hw 47 rfl) (own_w hw 48 rfl) (notFace_of_selects (args := #[]) (mvT hZ (own_w hw 50 rfl))) (own_w hw 50 rfl) (own_w hw 49 rfl) (own_w hw 32 rfl) (own_w hw 51 rfl) (by decide) (by rw [hml]; rfl) (argsL := [(.ref r1)]) pd_6 rfl (a := b12) rfl Eb0 (rm8b l Z a0 hw [] b12 r1 bn0 bc0 bu0 vs0 ks0 ct0 un0 k0 S cs (x1 &&& 255) T17.heap n0 sz17 S_cs_24 hcs M17 hm_r1 HT0 (by omega)) (by decide) (by decide) (Nat.le_of_eq rfl) (by decide) (by decide) (rest := []) rfl (hb hby at_55) ?_
  intro v25 T25 L25 X25 hQ25
  obtain ⟨bn25, bc25, bu25, vs25, ks25, ct25, un25, k25, z25, rfl, N25q, C25, M25, HT25, hk25, hl25, st25⟩ := hQ25
  have N25 := Fr.app N17 N25q
  have sz25 : n0 ≤ T25.heap.size := Nat.le_of_lt (Nat.lt_of_le_of_lt HT25.1.2.2.2.2.2.2.2.2.2.1 HT25.1.1.lt)
  have S25 : Sta Z T25.heap "java/lang/String" "COMPACT_STRINGS" "Z" (.int cs) := C25
  have hN25 := HT25.2.2.1.1
  have Eb25 : Exa Z T25.heap b12 "com/example/hedgewalk/hedgewalk/input/ChildCounts" := HT25.1.1
  show own_Go p e below _ T25 (mkF m 58 #[.val (.int x1), .val (.int x2), .val (.int x3), .val (.int x4), .val (.ref r1), .val (.ref r3), .val (.ref r5), .val (.ref r7), .val (.ref r9), .val (.ref r11), .val (.ref b12), .unset, .unset, .unset, .unset, .unset, .unset, .unset, .unset, .unset, .unset, .unset, .unset] [(.long z25)])
  refine own_pop2 X25 hx (hb hby at_58) ?_
  show own_Go p e below _ T25 (mkF m 59 #[.val (.int x1), .val (.int x2), .val (.int x3), .val (.int x4), .val (.ref r1), .val (.ref r3), .val (.ref r5), .val (.ref r7), .val (.ref r9), .val (.ref r11), .val (.ref b12), .unset, .unset, .unset, .unset, .unset, .unset, .unset, .unset, .unset, .unset, .unset, .unset] [])
  refine own_by (fun t_ k_ => XS.aload X25.here hx rfl (hb hby at_59) rfl rfl k_) ?_
  show own_Go p e below _ T25 (mkF m 61 #[.val (.int x1), .val (.int x2), .val (.int x3), .val (.int x4), .val (.ref r1), .val (.ref r3), .val (.ref r5), .val (.ref r7), .val (.ref r9), .val (.ref r11), .val (.ref b12), .unset, .unset, .unset, .unset, .unset, .unset, .unset, .unset, .unset, .unset, .unset, .unset] [(.ref b12)])
  refine own_by (fun t_ k_ => XS.aload X25.here hx rfl (hb hby at_61) rfl rfl k_) ?_
  show own_Go p e below _ T25 (mkF m 63 #[.val (.int x1), .val (.int x2), .val (.int x3), .val (.int x4), .val (.ref r1), .val (.ref r3), .val (.ref r5), .val (.ref r7), .val (.ref r9), .val (.ref r11), .val (.ref b12), .unset, .unset, .unset, .unset, .unset, .unset, .unset, .unset, .unset, .unset, .unset, .unset] [(.ref r3), (.ref b12)])
  refine own_callV (W := 0) X25 hx hZ (y := (⟨"com/example/hedgewalk/hedgewalk/input/ChildCounts", "increment", "(Ljava/lang/String;)J"⟩ : MethodName)) (z := (⟨"com/example/hedgewalk/hedgewalk/input/ChildCounts", "increment", "(Ljava/lang/String;)J"⟩ : MethodName)) hown (own_w hw 47 rfl) (own_w hw 48 rfl) (notFace_of_selects (args := #[]) (mvT hZ (own_w hw 50 rfl))) (own_w hw 50 rfl) (own_w hw 49 rfl) (own_w hw 32 rfl) (own_w hw 51 rfl) (by decide) (by rw [hml]; rfl) (argsL := [(.ref r3)]) pd_6 rfl (a := b12) rfl Eb25 (rm8b l Z a0 hw [] b12 r3 bn25 bc25 bu25 vs25 ks25 ct25 un25 k25 S cs (x2 &&& 255) T25.heap n0 sz25 S25 hcs M25 hm_r3 HT25 (by omega)) (by decide) (by decide) (Nat.le_of_eq rfl) (by decide) (by decide) (rest := []) rfl (hb hby at_63) ?_
  intro v26 T26 L26 X26 hQ26
  obtain ⟨bn26, bc26, bu26, vs26, ks26, ct26, un26, k26, z26, rfl, N26q, C26, M26, HT26, hk26, hl26, st26⟩ := hQ26
  have N26 := Fr.app N25 N26q
  have sz26 : n0 ≤ T26.heap.size := Nat.le_of_lt (Nat.lt_of_le_of_lt HT26.1.2.2.2.2.2.2.2.2.2.1 HT26.1.1.lt)
  have S26 : Sta Z T26.heap "java/lang/String" "COMPACT_STRINGS" "Z" (.int cs) := C26
  have hN26 := HT26.2.2.1.1
  have Eb26 : Exa Z T26.heap b12 "com/example/hedgewalk/hedgewalk/input/ChildCounts" := HT26.1.1
  show own_Go p e below _ T26 (mkF m 66 #[.val (.int x1), .val (.int x2), .val (.int x3), .val (.int x4), .val (.ref r1), .val (.ref r3), .val (.ref r5), .val (.ref r7), .val (.ref r9), .val (.ref r11), .val (.ref b12), .unset, .unset, .unset, .unset, .unset, .unset, .unset, .unset, .unset, .unset, .unset, .unset] [(.long z26)])
  refine own_pop2 X26 hx (hb hby at_66) ?_
  show own_Go p e below _ T26 (mkF m 67 #[.val (.int x1), .val (.int x2), .val (.int x3), .val (.int x4), .val (.ref r1), .val (.ref r3), .val (.ref r5), .val (.ref r7), .val (.ref r9), .val (.ref r11), .val (.ref b12), .unset, .unset, .unset, .unset, .unset, .unset, .unset, .unset, .unset, .unset, .unset, .unset] [])
  refine own_by (fun t_ k_ => XS.aload X26.here hx rfl (hb hby at_67) rfl rfl k_) ?_
  show own_Go p e below _ T26 (mkF m 69 #[.val (.int x1), .val (.int x2), .val (.int x3), .val (.int x4), .val (.ref r1), .val (.ref r3), .val (.ref r5), .val (.ref r7), .val (.ref r9), .val (.ref r11), .val (.ref b12), .unset, .unset, .unset, .unset, .unset, .unset, .unset, .unset, .unset, .unset, .unset, .unset] [(.ref b12)])
  refine own_by (fun t_ k_ => XS.aload X26.here hx rfl (hb hby at_69) rfl rfl k_) ?_
  show own_Go p e below _ T26 (mkF m 71 #[.val (.int x1), .val (.int x2), .val (.int x3), .val (.int x4), .val (.ref r1), .val (.ref r3), .val (.ref r5), .val (.ref r7), .val (.ref r9), .val (.ref r11), .val (.ref b12), .unset, .unset, .unset, .unset, .unset, .unset, .unset, .unset, .unset, .unset, .unset, .unset] [(.ref r5), (.ref b12)])
  refine own_callV (W := 0) X26 hx hZ (y := (⟨"com/example/hedgewalk/hedgewalk/input/ChildCounts", "increment", "(Ljava/lang/String;)J"⟩ : MethodName)) (z := (⟨"com/example/hedgewalk/hedgewalk/input/ChildCounts", "increment", "(Ljava/lang/String;)J"⟩ : MethodName)) hown (own_w hw 47 rfl) (own_w hw 48 rfl) (notFace_of_selects (args := #[]) (mvT hZ (own_w hw 50 rfl))) (own_w hw 50 rfl) (own_w hw 49 rfl) (own_w hw 32 rfl) (own_w hw 51 rfl) (by decide) (by rw [hml]; rfl) (argsL := [(.ref r5)]) pd_6 rfl (a := b12) rfl Eb26 (rm8b l Z a0 hw [] b12 r5 bn26 bc26 bu26 vs26 ks26 ct26 un26 k26 S cs (x3 &&& 255) T26.heap n0 sz26 S26 hcs M26 hm_r5 HT26 (by omega)) (by decide) (by decide) (Nat.le_of_eq rfl) (by decide) (by decide) (rest := []) rfl (hb hby at_71) ?_
  intro v27 T27 L27 X27 hQ27
  obtain ⟨bn27, bc27, bu27, vs27, ks27, ct27, un27, k27, z27, rfl, N27q, C27, M27, HT27, hk27, hl27, st27⟩ := hQ27
  have N27 := Fr.app N26 N27q
  have sz27 : n0 ≤ T27.heap.size := Nat.le_of_lt (Nat.lt_of_le_of_lt HT27.1.2.2.2.2.2.2.2.2.2.1 HT27.1.1.lt)
  have S27 : Sta Z T27.heap "java/lang/String" "COMPACT_STRINGS" "Z" (.int cs) := C27
  have hN27 := HT27.2.2.1.1
  have Eb27 : Exa Z T27.heap b12 "com/example/hedgewalk/hedgewalk/input/ChildCounts" := HT27.1.1
  show own_Go p e below _ T27 (mkF m 74 #[.val (.int x1), .val (.int x2), .val (.int x3), .val (.int x4), .val (.ref r1), .val (.ref r3), .val (.ref r5), .val (.ref r7), .val (.ref r9), .val (.ref r11), .val (.ref b12), .unset, .unset, .unset, .unset, .unset, .unset, .unset, .unset, .unset, .unset, .unset, .unset] [(.long z27)])
  refine own_pop2 X27 hx (hb hby at_74) ?_
  show own_Go p e below _ T27 (mkF m 75 #[.val (.int x1), .val (.int x2), .val (.int x3), .val (.int x4), .val (.ref r1), .val (.ref r3), .val (.ref r5), .val (.ref r7), .val (.ref r9), .val (.ref r11), .val (.ref b12), .unset, .unset, .unset, .unset, .unset, .unset, .unset, .unset, .unset, .unset, .unset, .unset] [])
  refine own_by (fun t_ k_ => XS.aload X27.here hx rfl (hb hby at_75) rfl rfl k_) ?_
  show own_Go p e below _ T27 (mkF m 77 #[.val (.int x1), .val (.int x2), .val (.int x3), .val (.int x4), .val (.ref r1), .val (.ref r3), .val (.ref r5), .val (.ref r7), .val (.ref r9), .val (.ref r11), .val (.ref b12), .unset, .unset, .unset, .unset, .unset, .unset, .unset, .unset, .unset, .unset, .unset, .unset] [(.ref b12)])
  refine own_by (fun t_ k_ => XS.aload X27.here hx rfl (hb hby at_77) rfl rfl k_) ?_
  show own_Go p e below _ T27 (mkF m 79 #[.val (.int x1), .val (.int x2), .val (.int x3), .val (.int x4), .val (.ref r1), .val (.ref r3), .val (.ref r5), .val (.ref r7), .val (.ref r9), .val (.ref r11), .val (.ref b12), .unset, .unset, .unset, .unset, .unset, .unset, .unset, .unset, .unset, .unset, .unset, .unset] [(.ref r7), (.ref b12)])
  refine own_callV (W := 0) X27 hx hZ (y := (⟨"com/example/hedgewalk/hedgewalk/input/ChildCounts", "increment", "(Ljava/lang/String;)J"⟩ : MethodName)) (z := (⟨"com/example/hedgewalk/hedgewalk/input/ChildCounts", "increment", "(Ljava/lang/String;)J"⟩ : MethodName)) hown (own_w hw 47 rfl) (own_w hw 48 rfl) (notFace_of_selects (args := #[]) (mvT hZ (own_w hw 50 rfl))) (own_w hw 50 rfl) (own_w hw 49 rfl) (own_w hw 32 rfl) (own_w hw 51 rfl) (by decide) (by rw [hml]; rfl) (argsL := [(.ref r7)]) pd_6 rfl (a := b12) rfl Eb27 (rm8b l Z a0 hw [] b12 r7 bn27 bc27 bu27 vs27 ks27 ct27 un27 k27 S cs ((XT.ushr x1 (8 : Int32)) &&& 255) T27.heap n0 sz27 S27 hcs M27 hm_r7 HT27 (by omega)) (by decide) (by decide) (Nat.le_of_eq rfl) (by decide) (by decide) (rest := []) rfl (hb hby at_79) ?_
  intro v28 T28 L28 X28 hQ28
  obtain ⟨bn28, bc28, bu28, vs28, ks28, ct28, un28, k28, z28, rfl, N28q, C28, M28, HT28, hk28, hl28, st28⟩ := hQ28
  have N28 := Fr.app N27 N28q
  have sz28 : n0 ≤ T28.heap.size := Nat.le_of_lt (Nat.lt_of_le_of_lt HT28.1.2.2.2.2.2.2.2.2.2.1 HT28.1.1.lt)
  have S28 : Sta Z T28.heap "java/lang/String" "COMPACT_STRINGS" "Z" (.int cs) := C28
  have hN28 := HT28.2.2.1.1
  have Eb28 : Exa Z T28.heap b12 "com/example/hedgewalk/hedgewalk/input/ChildCounts" := HT28.1.1
  show own_Go p e below _ T28 (mkF m 82 #[.val (.int x1), .val (.int x2), .val (.int x3), .val (.int x4), .val (.ref r1), .val (.ref r3), .val (.ref r5), .val (.ref r7), .val (.ref r9), .val (.ref r11), .val (.ref b12), .unset, .unset, .unset, .unset, .unset, .unset, .unset, .unset, .unset, .unset, .unset, .unset] [(.long z28)])
  refine own_pop2 X28 hx (hb hby at_82) ?_
  show own_Go p e below _ T28 (mkF m 83 #[.val (.int x1), .val (.int x2), .val (.int x3), .val (.int x4), .val (.ref r1), .val (.ref r3), .val (.ref r5), .val (.ref r7), .val (.ref r9), .val (.ref r11), .val (.ref b12), .unset, .unset, .unset, .unset, .unset, .unset, .unset, .unset, .unset, .unset, .unset, .unset] [])
  refine own_by (fun t_ k_ => XS.aload X28.here hx rfl (hb hby at_83) rfl rfl k_) ?_
  show own_Go p e below _ T28 (mkF m 85 #[.val (.int x1), .val (.int x2), .val (.int x3), .val (.int x4), .val (.ref r1), .val (.ref r3), .val (.ref r5), .val (.ref r7), .val (.ref r9), .val (.ref r11), .val (.ref b12), .unset, .unset, .unset, .unset, .unset, .unset, .unset, .unset, .unset, .unset, .unset, .unset] [(.ref b12)])
  refine own_by (fun t_ k_ => XS.aload X28.here hx rfl (hb hby at_85) rfl rfl k_) ?_
  show own_Go p e below _ T28 (mkF m 87 #[.val (.int x1), .val (.int x2), .val (.int x3), .val (.int x4), .val (.ref r1), .val (.ref r3), .val (.ref r5), .val (.ref r7), .val (.ref r9), .val (.ref r11), .val (.ref b12), .unset, .unset, .unset, .unset, .unset, .unset, .unset, .unset, .unset, .unset, .unset, .unset] [(.ref r9), (.ref b12)])
  refine own_callV (W := 0) X28 hx hZ (y := (⟨"com/example/hedgewalk/hedgewalk/input/ChildCounts", "increment", "(Ljava/lang/String;)J"⟩ : MethodName)) (z := (⟨"com/example/hedgewalk/hedgewalk/input/ChildCounts", "increment", "(Ljava/lang/String;)J"⟩ : MethodName)) hown (own_w hw 47 rfl) (own_w hw 48 rfl) (notFace_of_selects (args := #[]) (mvT hZ (own_w hw 50 rfl))) (own_w hw 50 rfl) (own_w hw 49 rfl) (own_w hw 32 rfl) (own_w hw 51 rfl) (by decide) (by rw [hml]; rfl) (argsL := [(.ref r9)]) pd_6 rfl (a := b12) rfl Eb28 (rm8 l Z a0 hw [] b12 r9 bn28 bc28 bu28 vs28 ks28 ct28 un28 k28 S cs ((XT.ushr x2 (8 : Int32)) &&& 255) T28.heap n0 sz28 S28 hcs M28 hm_r9 HT28 (by omega)) (by decide) (by decide) (Nat.le_of_eq rfl) (by decide) (by decide) (rest := []) rfl (hb hby at_87) ?_
  intro v29 T29 L29 X29 hQ29
  obtain ⟨bn29, bc29, bu29, vs29, ks29, ct29, un29, k29, z29, rfl, N29q, C29, M29, HT29⟩ := hQ29
  have N29 := Fr.app N28 N29q
  have sz29 : n0 ≤ T29.heap.size := Nat.le_of_lt (Nat.lt_of_le_of_lt HT29.1.2.2.2.2.2.2.2.2.2.1 HT29.1.1.lt)
  have S29 : Sta Z T29.heap "java/lang/String" "COMPACT_STRINGS" "Z" (.int cs) := C29
  have hN29 := HT29.2.2.1.1
  have Eb29 : Exa Z T29.heap b12 "com/example/hedgewalk/hedgewalk/input/ChildCounts" := HT29.1.1
  show own_Go p e below _ T29 (mkF m 90 #[.val (.int x1), .val (.int x2), .val (.int x3), .val (.int x4), .val (.ref r1), .val (.ref r3), .val (.ref r5), .val (.ref r7), .val (.ref r9), .val (.ref r11), .val (.ref b12), .unset, .unset, .unset, .unset, .unset, .unset, .unset, .unset, .unset, .unset, .unset, .unset] [(.long z29)])
  refine own_pop2 X29 hx (hb hby at_90) ?_
  show own_Go p e below _ T29 (mkF m 91 #[.val (.int x1), .val (.int x2), .val (.int x3), .val (.int x4), .val (.ref r1), .val (.ref r3), .val (.ref r5), .val (.ref r7), .val (.ref r9), .val (.ref r11), .val (.ref b12), .unset, .unset, .unset, .unset, .unset, .unset, .unset, .unset, .unset, .unset, .unset, .unset] [])
  refine own_by (fun t_ k_ => XS.aload X29.here hx rfl (hb hby at_91) rfl rfl k_) ?_
  show own_Go p e below _ T29 (mkF m 93 #[.val (.int x1), .val (.int x2), .val (.int x3), .val (.int x4), .val (.ref r1), .val (.ref r3), .val (.ref r5), .val (.ref r7), .val (.ref r9), .val (.ref r11), .val (.ref b12), .unset, .unset, .unset, .unset, .unset, .unset, .unset, .unset, .unset, .unset, .unset, .unset] [(.ref b12)])
  refine own_callV (W := 0) X29 hx hZ (y := (⟨"com/example/hedgewalk/hedgewalk/input/ChildCounts", "clear", "()V"⟩ : MethodName)) (z := (⟨"com/example/hedgewalk/hedgewalk/input/ChildCounts", "clear", "()V"⟩ : MethodName)) hown (own_w hw 83 rfl) (own_w hw 84 rfl) (notFace_of_selects (args := #[]) (mvT hZ (own_w hw 86 rfl))) (own_w hw 86 rfl) (own_w hw 85 rfl) (own_w hw 32 rfl) (own_w hw 87 rfl) (by decide) (by rw [hml]; rfl) (argsL := []) pd_5 rfl (a := b12) rfl Eb29 (rm15 l Z a0 hw [] b12 bn29 bc29 bu29 vs29 ks29 ct29 un29 k29 S cs T29.heap n0 sz29 S29 hcs M29 HT29) (by decide) (by decide) (Nat.le_of_eq rfl) (by decide) (by decide) (rest := []) rfl (hb hby at_93) ?_
  intro v30 T30 L30 X30 hQ30
  obtain ⟨bn30, bc30, bu30, vs30, ct30, un30, rfl, N30q, C30, M30, HT30⟩ := hQ30
  have N30 := Fr.app N29 N30q
  have sz30 : n0 ≤ T30.heap.size := Nat.le_of_lt (Nat.lt_of_le_of_lt HT30.1.2.2.2.2.2.2.2.2.2.1 HT30.1.1.lt)
  have S30 : Sta Z T30.heap "java/lang/String" "COMPACT_STRINGS" "Z" (.int cs) := C30
  have Eb30 : Exa Z T30.heap b12 "com/example/hedgewalk/hedgewalk/input/ChildCounts" := HT30.1.1
  show own_Go p e below _ T30 (mkF m 96 #[.val (.int x1), .val (.int x2), .val (.int x3), .val (.int x4), .val (.ref r1), .val (.ref r3), .val (.ref r5), .val (.ref r7), .val (.ref r9), .val (.ref r11), .val (.ref b12), .unset, .unset, .unset, .unset, .unset, .unset, .unset, .unset, .unset, .unset, .unset, .unset] [])
  refine own_by (fun t_ k_ => XS.aload X30.here hx rfl (hb hby at_96) rfl rfl k_) ?_
  show own_Go p e below _ T30 (mkF m 98 #[.val (.int x1), .val (.int x2), .val (.int x3), .val (.int x4), .val (.ref r1), .val (.ref r3), .val (.ref r5), .val (.ref r7), .val (.ref r9), .val (.ref r11), .val (.ref b12), .unset, .unset, .unset, .unset, .unset, .unset, .unset, .unset, .unset, .unset, .unset, .unset] [(.ref b12)])
  refine own_by (fun t_ k_ => XS.aload X30.here hx rfl (hb hby at_98) rfl rfl k_) ?_
  show own_Go p e below _ T30 (mkF m 100 #[.val (.int x1), .val (.int x2), .val (.int x3), .val (.int x4), .val (.ref r1), .val (.ref r3), .val (.ref r5), .val (.ref r7), .val (.ref r9), .val (.ref r11), .val (.ref b12), .unset, .unset, .unset, .unset, .unset, .unset, .unset, .unset, .unset, .unset, .unset, .unset] [(.ref r1), (.ref b12)])
  refine own_callV (W := 0) X30 hx hZ (y := (⟨"com/example/hedgewalk/hedgewalk/input/ChildCounts", "increment", "(Ljava/lang/String;)J"⟩ : MethodName)) (z := (⟨"com/example/hedgewalk/hedgewalk/input/ChildCounts", "increment", "(Ljava/lang/String;)J"⟩ : MethodName)) hown (own_w hw 47 rfl) (own_w hw 48 rfl) (notFace_of_selects (args := #[]) (mvT hZ (own_w hw 50 rfl))) (own_w hw 50 rfl) (own_w hw 49 rfl) (own_w hw 32 rfl) (own_w hw 51 rfl) (by decide) (by rw [hml]; rfl) (argsL := [(.ref r1)]) pd_6 rfl (a := b12) rfl Eb30 (rm8b l Z a0 hw [] b12 r1 bn30 bc30 bu30 vs30 (List.replicate ks29.length none) ct30 un30 0 S cs (x1 &&& 255) T30.heap n0 sz30 S30 hcs M30 hm_r1 HT30 (by rw [List.length_replicate]; omega)) (by decide) (by decide) (Nat.le_of_eq rfl) (by decide) (by decide) (rest := []) rfl (hb hby at_100) ?_
  intro v31 T31 L31 X31 hQ31
  obtain ⟨bn31, bc31, bu31, vs31, ks31, ct31, un31, k31, z31, rfl, N31q, C31, M31, HT31, hk31, hl31, st31⟩ := hQ31
  have N31 := Fr.app N30 N31q
  have sz31 : n0 ≤ T31.heap.size := Nat.le_of_lt (Nat.lt_of_le_of_lt HT31.1.2.2.2.2.2.2.2.2.2.1 HT31.1.1.lt)
  have S31 : Sta Z T31.heap "java/lang/String" "COMPACT_STRINGS" "Z" (.int cs) := C31
  have hN31 := HT31.2.2.1.1
  rw [List.length_replicate] at hl31
  have Eb31 : Exa Z T31.heap b12 "com/example/hedgewalk/hedgewalk/input/ChildCounts" := HT31.1.1
  show own_Go p e below _ T31 (mkF m 103 #[.val (.int x1), .val (.int x2), .val (.int x3), .val (.int x4), .val (.ref r1), .val (.ref r3), .val (.ref r5), .val (.ref r7), .val (.ref r9), .val (.ref r11), .val (.ref b12), .unset, .unset, .unset, .unset, .unset, .unset, .unset, .unset, .unset, .unset, .unset, .unset] [(.long z31)])
  refine own_by (fun t_ k_ => XT.lstore X31.here hx rfl (hb hby at_103) rfl (l' := #[.val (.int x1), .val (.int x2), .val (.int x3), .val (.int x4), .val (.ref r1), .val (.ref r3), .val (.ref r5), .val (.ref r7), .val (.ref r9), .val (.ref r11), .val (.ref b12), .val (.long z31), .second, .unset, .unset, .unset, .unset, .unset, .unset, .unset, .unset, .unset, .unset]) rfl k_) ?_
  show own_Go p e below _ T31 (mkF m 105 #[.val (.int x1), .val (.int x2), .val (.int x3), .val (.int x4), .val (.ref r1), .val (.ref r3), .val (.ref r5), .val (.ref r7), .val (.ref r9), .val (.ref r11), .val (.ref b12), .val (.long z31), .second, .unset, .unset, .unset, .unset, .unset, .unset, .unset, .unset, .unset, .unset] [])
  refine own_by (fun t_ k_ => XS.aload X31.here hx rfl (hb hby at_105) rfl rfl k_) ?_
  show own_Go p e below _ T31 (mkF m 107 #[.val (.int x1), .val (.int x2), .val (.int x3), .val (.int x4), .val (.ref r1), .val (.ref r3), .val (.ref r5), .val (.ref r7), .val (.ref r9), .val (.ref r11), .val (.ref b12), .val (.long z31), .second, .unset, .unset, .unset, .unset, .unset, .unset, .unset, .unset, .unset, .unset] [(.ref b12)])
  refine own_by (fun t_ k_ => XS.aload X31.here hx rfl (hb hby at_107) rfl rfl k_) ?_
  show own_Go p e below _ T31 (mkF m 109 #[.val (.int x1), .val (.int x2), .val (.int x3), .val (.int x4), .val (.ref r1), .val (.ref r3), .val (.ref r5), .val (.ref r7), .val (.ref r9), .val (.ref r11), .val (.ref b12), .val (.long z31), .second, .unset, .unset, .unset, .unset, .unset, .unset, .unset, .unset, .unset, .unset] [(.ref r11), (.ref b12)])
  refine own_callV (W := 0) X31 hx hZ (y := (⟨"com/example/hedgewalk/hedgewalk/input/ChildCounts", "increment", "(Ljava/lang/String;)J"⟩ : MethodName)) (z := (⟨"com/example/hedgewalk/hedgewalk/input/ChildCounts", "increment", "(Ljava/lang/String;)J"⟩ : MethodName)) hown (own_w hw 47 rfl) (own_w hw 48 rfl) (notFace_of_selects (args := #[]) (mvT hZ (own_w hw 50 rfl))) (own_w hw 50 rfl) (own_w hw 49 rfl) (own_w hw 32 rfl) (own_w hw 51 rfl) (by decide) (by rw [hml]; rfl) (argsL := [(.ref r11)]) pd_6 rfl (a := b12) rfl Eb31 (rm8b l Z a0 hw [] b12 r11 bn31 bc31 bu31 vs31 ks31 ct31 un31 k31 S cs (x4 &&& 255) T31.heap n0 sz31 S31 hcs M31 hm_r11 HT31 (by omega)) (by decide) (by decide) (Nat.le_of_eq rfl) (by decide) (by decide) (rest := []) rfl (hb hby at_109) ?_
  intro v32 T32 L32 X32 hQ32
  obtain ⟨bn32, bc32, bu32, vs32, ks32, ct32, un32, k32, z32, rfl, N32q, C32, M32, HT32, hk32, hl32, st32⟩ := hQ32
  have N32 := Fr.app N31 N32q
  have sz32 : n0 ≤ T32.heap.size := Nat.le_of_lt (Nat.lt_of_le_of_lt HT32.1.2.2.2.2.2.2.2.2.2.1 HT32.1.1.lt)
  have S32 : Sta Z T32.heap "java/lang/String" "COMPACT_STRINGS" "Z" (.int cs) := C32
  have hN32 := HT32.2.2.1.1
  have Eb32 : Exa Z T32.heap b12 "com/example/hedgewalk/hedgewalk/input/ChildCounts" := HT32.1.1
  show own_Go p e below _ T32 (mkF m 112 #[.val (.int x1), .val (.int x2), .val (.int x3), .val (.int x4), .val (.ref r1), .val (.ref r3), .val (.ref r5), .val (.ref r7), .val (.ref r9), .val (.ref r11), .val (.ref b12), .val (.long z31), .second, .unset, .unset, .unset, .unset, .unset, .unset, .unset, .unset, .unset, .unset] [(.long z32)])
  refine own_by (fun t_ k_ => XT.lstore X32.here hx rfl (hb hby at_112) rfl (l' := #[.val (.int x1), .val (.int x2), .val (.int x3), .val (.int x4), .val (.ref r1), .val (.ref r3), .val (.ref r5), .val (.ref r7), .val (.ref r9), .val (.ref r11), .val (.ref b12), .val (.long z31), .second, .val (.long z32), .second, .unset, .unset, .unset, .unset, .unset, .unset, .unset, .unset]) rfl k_) ?_
  show own_Go p e below _ T32 (mkF m 114 #[.val (.int x1), .val (.int x2), .val (.int x3), .val (.int x4), .val (.ref r1), .val (.ref r3), .val (.ref r5), .val (.ref r7), .val (.ref r9), .val (.ref r11), .val (.ref b12), .val (.long z31), .second, .val (.long z32), .second, .unset, .unset, .unset, .unset, .unset, .unset, .unset, .unset] [])
  refine own_by (fun t_ k_ => XS.aload X32.here hx rfl (hb hby at_114) rfl rfl k_) ?_
  show own_Go p e below _ T32 (mkF m 116 #[.val (.int x1), .val (.int x2), .val (.int x3), .val (.int x4), .val (.ref r1), .val (.ref r3), .val (.ref r5), .val (.ref r7), .val (.ref r9), .val (.ref r11), .val (.ref b12), .val (.long z31), .second, .val (.long z32), .second, .unset, .unset, .unset, .unset, .unset, .unset, .unset, .unset] [(.ref b12)])
  refine own_by (fun t_ k_ => XS.aload X32.here hx rfl (hb hby at_116) rfl rfl k_) ?_
  show own_Go p e below _ T32 (mkF m 118 #[.val (.int x1), .val (.int x2), .val (.int x3), .val (.int x4), .val (.ref r1), .val (.ref r3), .val (.ref r5), .val (.ref r7), .val (.ref r9), .val (.ref r11), .val (.ref b12), .val (.long z31), .second, .val (.long z32), .second, .unset, .unset, .unset, .unset, .unset, .unset, .unset, .unset] [(.ref r3), (.ref b12)])
  refine own_callV (W := 0) X32 hx hZ (y := (⟨"com/example/hedgewalk/hedgewalk/input/ChildCounts", "increment", "(Ljava/lang/String;)J"⟩ : MethodName)) (z := (⟨"com/example/hedgewalk/hedgewalk/input/ChildCounts", "increment", "(Ljava/lang/String;)J"⟩ : MethodName)) hown (own_w hw 47 rfl) (own_w hw 48 rfl) (notFace_of_selects (args := #[]) (mvT hZ (own_w hw 50 rfl))) (own_w hw 50 rfl) (own_w hw 49 rfl) (own_w hw 32 rfl) (own_w hw 51 rfl) (by decide) (by rw [hml]; rfl) (argsL := [(.ref r3)]) pd_6 rfl (a := b12) rfl Eb32 (rm8b l Z a0 hw [] b12 r3 bn32 bc32 bu32 vs32 ks32 ct32 un32 k32 S cs (x2 &&& 255) T32.heap n0 sz32 S32 hcs M32 hm_r3 HT32 (by omega)) (by decide) (by decide) (Nat.le_of_eq rfl) (by decide) (by decide) (rest := []) rfl (hb hby at_118) ?_
  intro v33 T33 L33 X33 hQ33
  obtain ⟨bn33, bc33, bu33, vs33, ks33, ct33, un33, k33, z33, rfl, N33q, C33, M33, HT33, hk33, hl33, st33⟩ := hQ33
  have N33 := Fr.app N32 N33q
  have sz33 : n0 ≤ T33.heap.size := Nat.le_of_lt (Nat.lt_of_le_of_lt HT33.1.2.2.2.2.2.2.2.2.2.1 HT33.1.1.lt)
  have S33 : Sta Z T33.heap "java/lang/String" "COMPACT_STRINGS" "Z" (.int cs) := C33
  have hN33 := HT33.2.2.1.1
  have Eb33 : Exa Z T33.heap b12 "com/example/hedgewalk/hedgewalk/input/ChildCounts" := HT33.1.1
  obtain ⟨q1, q2, q3⟩ := own_law (by simpa using HT30.2.2.2) HT31.2.2.2 HT32.2.2.2 st31 st32 st33
  show own_Go p e below _ T33 (mkF m 121 #[.val (.int x1), .val (.int x2), .val (.int x3), .val (.int x4), .val (.ref r1), .val (.ref r3), .val (.ref r5), .val (.ref r7), .val (.ref r9), .val (.ref r11), .val (.ref b12), .val (.long z31), .second, .val (.long z32), .second, .unset, .unset, .unset, .unset, .unset, .unset, .unset, .unset] [(.long z33)])
  refine own_by (fun t_ k_ => XT.lstore X33.here hx rfl (hb hby at_121) rfl (l' := #[.val (.int x1), .val (.int x2), .val (.int x3), .val (.int x4), .val (.ref r1), .val (.ref r3), .val (.ref r5), .val (.ref r7), .val (.ref r9), .val (.ref r11), .val (.ref b12), .val (.long z31), .second, .val (.long z32), .second, .val (.long z33), .second, .unset, .unset, .unset, .unset, .unset, .unset]) rfl k_) ?_
  show own_Go p e below _ T33 (mkF m 123 #[.val (.int x1), .val (.int x2), .val (.int x3), .val (.int x4), .val (.ref r1), .val (.ref r3), .val (.ref r5), .val (.ref r7), .val (.ref r9), .val (.ref r11), .val (.ref b12), .val (.long z31), .second, .val (.long z32), .second, .val (.long z33), .second, .unset, .unset, .unset, .unset, .unset, .unset] [])
  refine own_by (fun t_ k_ => XT.lconst X33.here hx rfl (hb hby at_123) k_) ?_
  show own_Go p e below _ T33 (mkF m 124 #[.val (.int x1), .val (.int x2), .val (.int x3), .val (.int x4), .val (.ref r1), .val (.ref r3), .val (.ref r5), .val (.ref r7), .val (.ref r9), .val (.ref r11), .val (.ref b12), .val (.long z31), .second, .val (.long z32), .second, .val (.long z33), .second, .unset, .unset, .unset, .unset, .unset, .unset] [(.long (1 : Int64))])
  refine own_by (fun t_ k_ => XT.lstore X33.here hx rfl (hb hby at_124) rfl (l' := #[.val (.int x1), .val (.int x2), .val (.int x3), .val (.int x4), .val (.ref r1), .val (.ref r3), .val (.ref r5), .val (.ref r7), .val (.ref r9), .val (.ref r11), .val (.ref b12), .val (.long z31), .second, .val (.long z32), .second, .val (.long z33), .second, .val (.long (1 : Int64)), .second, .unset, .unset, .unset, .unset]) rfl k_) ?_
  show own_Go p e below _ T33 (mkF m 126 #[.val (.int x1), .val (.int x2), .val (.int x3), .val (.int x4), .val (.ref r1), .val (.ref r3), .val (.ref r5), .val (.ref r7), .val (.ref r9), .val (.ref r11), .val (.ref b12), .val (.long z31), .second, .val (.long z32), .second, .val (.long z33), .second, .val (.long (1 : Int64)), .second, .unset, .unset, .unset, .unset] [])
  refine own_by (fun t_ k_ => XT.lconst X33.here hx rfl (hb hby at_126) k_) ?_
  show own_Go p e below _ T33 (mkF m 127 #[.val (.int x1), .val (.int x2), .val (.int x3), .val (.int x4), .val (.ref r1), .val (.ref r3), .val (.ref r5), .val (.ref r7), .val (.ref r9), .val (.ref r11), .val (.ref b12), .val (.long z31), .second, .val (.long z32), .second, .val (.long z33), .second, .val (.long (1 : Int64)), .second, .unset, .unset, .unset, .unset] [(.long (1 : Int64))])
  refine own_by (fun t_ k_ => XS.aload X33.here hx rfl (hb hby at_127) rfl rfl k_) ?_
  show own_Go p e below _ T33 (mkF m 129 #[.val (.int x1), .val (.int x2), .val (.int x3), .val (.int x4), .val (.ref r1), .val (.ref r3), .val (.ref r5), .val (.ref r7), .val (.ref r9), .val (.ref r11), .val (.ref b12), .val (.long z31), .second, .val (.long z32), .second, .val (.long z33), .second, .val (.long (1 : Int64)), .second, .unset, .unset, .unset, .unset] [(.ref r11), (.long (1 : Int64))])
  refine own_by (fun t_ k_ => XS.aload X33.here hx rfl (hb hby at_129) rfl rfl k_) ?_
  show own_Go p e below _ T33 (mkF m 131 #[.val (.int x1), .val (.int x2), .val (.int x3), .val (.int x4), .val (.ref r1), .val (.ref r3), .val (.ref r5), .val (.ref r7), .val (.ref r9), .val (.ref r11), .val (.ref b12), .val (.long z31), .second, .val (.long z32), .second, .val (.long z33), .second, .val (.long (1 : Int64)), .second, .unset, .unset, .unset, .unset] [(.ref r1), (.ref r11), (.long (1 : Int64))])
  refine own_callS (W := 2) X33 hx hZ (y := (⟨"com/example/hedgewalk/hedgewalk/input/ChildCountsClearPinLaw", "eq", "(Ljava/lang/String;Ljava/lang/String;)J"⟩ : MethodName)) hown (own_w hw 88 rfl) (own_w hw 89 rfl) (own_w hw 2 rfl) (own_w hw 90 rfl) (by decide) (by rw [hml]; rfl) (argsL := [(.ref r11), (.ref r1)]) pd_13 rfl (rm16 l Z a0 hw [] r11 r1 (x4 &&& 255) (x1 &&& 255) cs T33.heap n0 sz33 S33 hcs (M33 _ hm_r11).1 (M33 _ hm_r1).1 (M33 _ hm_r11).2.1 (M33 _ hm_r1).2.1) (by decide) (by decide) (Nat.le_of_eq rfl) (by decide) (by decide) (rest := [(.long (1 : Int64))]) rfl rfl (hb hby at_131) ?_
  intro v34 T34 L34 X34 hQ34
  obtain ⟨rfl, N34q, e34⟩ := hQ34
  have N34 := Fr.app N33 N34q
  show own_Go p e below _ T34 (mkF m 134 #[.val (.int x1), .val (.int x2), .val (.int x3), .val (.int x4), .val (.ref r1), .val (.ref r3), .val (.ref r5), .val (.ref r7), .val (.ref r9), .val (.ref r11), .val (.ref b12), .val (.long z31), .second, .val (.long z32), .second, .val (.long z33), .second, .val (.long (1 : Int64)), .second, .unset, .unset, .unset, .unset] [(.long (if (x4 &&& 255) = (x1 &&& 255) then (1 : Int64) else 0)), (.long (1 : Int64))])
  refine own_by (fun t_ k_ => XT.ladd X34.here hx rfl (hb hby at_134) rfl k_) ?_
  show own_Go p e below _ T34 (mkF m 135 #[.val (.int x1), .val (.int x2), .val (.int x3), .val (.int x4), .val (.ref r1), .val (.ref r3), .val (.ref r5), .val (.ref r7), .val (.ref r9), .val (.ref r11), .val (.ref b12), .val (.long z31), .second, .val (.long z32), .second, .val (.long z33), .second, .val (.long (1 : Int64)), .second, .unset, .unset, .unset, .unset] [(.long ((1 : Int64) + (if (x4 &&& 255) = (x1 &&& 255) then (1 : Int64) else 0)))])
  refine own_by (fun t_ k_ => XT.lstore X34.here hx rfl (hb hby at_135) rfl (l' := #[.val (.int x1), .val (.int x2), .val (.int x3), .val (.int x4), .val (.ref r1), .val (.ref r3), .val (.ref r5), .val (.ref r7), .val (.ref r9), .val (.ref r11), .val (.ref b12), .val (.long z31), .second, .val (.long z32), .second, .val (.long z33), .second, .val (.long (1 : Int64)), .second, .val (.long ((1 : Int64) + (if (x4 &&& 255) = (x1 &&& 255) then (1 : Int64) else 0))), .second, .unset, .unset]) rfl k_) ?_
  show own_Go p e below _ T34 (mkF m 137 #[.val (.int x1), .val (.int x2), .val (.int x3), .val (.int x4), .val (.ref r1), .val (.ref r3), .val (.ref r5), .val (.ref r7), .val (.ref r9), .val (.ref r11), .val (.ref b12), .val (.long z31), .second, .val (.long z32), .second, .val (.long z33), .second, .val (.long (1 : Int64)), .second, .val (.long ((1 : Int64) + (if (x4 &&& 255) = (x1 &&& 255) then (1 : Int64) else 0))), .second, .unset, .unset] [])
  refine own_by (fun t_ k_ => XT.lconst X34.here hx rfl (hb hby at_137) k_) ?_
  show own_Go p e below _ T34 (mkF m 138 #[.val (.int x1), .val (.int x2), .val (.int x3), .val (.int x4), .val (.ref r1), .val (.ref r3), .val (.ref r5), .val (.ref r7), .val (.ref r9), .val (.ref r11), .val (.ref b12), .val (.long z31), .second, .val (.long z32), .second, .val (.long z33), .second, .val (.long (1 : Int64)), .second, .val (.long ((1 : Int64) + (if (x4 &&& 255) = (x1 &&& 255) then (1 : Int64) else 0))), .second, .unset, .unset] [(.long (1 : Int64))])
  refine own_by (fun t_ k_ => XS.aload X34.here hx rfl (hb hby at_138) rfl rfl k_) ?_
  show own_Go p e below _ T34 (mkF m 140 #[.val (.int x1), .val (.int x2), .val (.int x3), .val (.int x4), .val (.ref r1), .val (.ref r3), .val (.ref r5), .val (.ref r7), .val (.ref r9), .val (.ref r11), .val (.ref b12), .val (.long z31), .second, .val (.long z32), .second, .val (.long z33), .second, .val (.long (1 : Int64)), .second, .val (.long ((1 : Int64) + (if (x4 &&& 255) = (x1 &&& 255) then (1 : Int64) else 0))), .second, .unset, .unset] [(.ref r3), (.long (1 : Int64))])
  refine own_by (fun t_ k_ => XS.aload X34.here hx rfl (hb hby at_140) rfl rfl k_) ?_
  show own_Go p e below _ T34 (mkF m 142 #[.val (.int x1), .val (.int x2), .val (.int x3), .val (.int x4), .val (.ref r1), .val (.ref r3), .val (.ref r5), .val (.ref r7), .val (.ref r9), .val (.ref r11), .val (.ref b12), .val (.long z31), .second, .val (.long z32), .second, .val (.long z33), .second, .val (.long (1 : Int64)), .second, .val (.long ((1 : Int64) + (if (x4 &&& 255) = (x1 &&& 255) then (1 : Int64) else 0))), .second, .unset, .unset] [(.ref r1), (.ref r3), (.long (1 : Int64))])
  refine own_callS (W := 2) X34 hx hZ (y := (⟨"com/example/hedgewalk/hedgewalk/input/ChildCountsClearPinLaw", "eq", "(Ljava/lang/String;Ljava/lang/String;)J"⟩ : MethodName)) hown (own_w hw 88 rfl) (own_w hw 89 rfl) (own_w hw 2 rfl) (own_w hw 90 rfl) (by decide) (by rw [hml]; rfl) (argsL := [(.ref r3), (.ref r1)]) pd_13 rfl (rm16 l Z a0 hw [] r3 r1 (x2 &&& 255) (x1 &&& 255) cs T33.heap n0 sz33 S33 hcs (M33 _ hm_r3).1 (M33 _ hm_r1).1 (M33 _ hm_r3).2.1 (M33 _ hm_r1).2.1) (by decide) (by decide) (Nat.le_of_eq rfl) (by decide) (by decide) (rest := [(.long (1 : Int64))]) e34 rfl (hb hby at_142) ?_
  intro v35 T35 L35 X35 hQ35
  obtain ⟨rfl, N35q, e35⟩ := hQ35
  have N35 := Fr.app N34 N35q
  show own_Go p e below _ T35 (mkF m 145 #[.val (.int x1), .val (.int x2), .val (.int x3), .val (.int x4), .val (.ref r1), .val (.ref r3), .val (.ref r5), .val (.ref r7), .val (.ref r9), .val (.ref r11), .val (.ref b12), .val (.long z31), .second, .val (.long z32), .second, .val (.long z33), .second, .val (.long (1 : Int64)), .second, .val (.long ((1 : Int64) + (if (x4 &&& 255) = (x1 &&& 255) then (1 : Int64) else 0))), .second, .unset, .unset] [(.long (if (x2 &&& 255) = (x1 &&& 255) then (1 : Int64) else 0)), (.long (1 : Int64))])
  refine own_by (fun t_ k_ => XT.ladd X35.here hx rfl (hb hby at_145) rfl k_) ?_
  show own_Go p e below _ T35 (mkF m 146 #[.val (.int x1), .val (.int x2), .val (.int x3), .val (.int x4), .val (.ref r1), .val (.ref r3), .val (.ref r5), .val (.ref r7), .val (.ref r9), .val (.ref r11), .val (.ref b12), .val (.long z31), .second, .val (.long z32), .second, .val (.long z33), .second, .val (.long (1 : Int64)), .second, .val (.long ((1 : Int64) + (if (x4 &&& 255) = (x1 &&& 255) then (1 : Int64) else 0))), .second, .unset, .unset] [(.long ((1 : Int64) + (if (x2 &&& 255) = (x1 &&& 255) then (1 : Int64) else 0)))])
  refine own_by (fun t_ k_ => XS.aload X35.here hx rfl (hb hby at_146) rfl rfl k_) ?_
  show own_Go p e below _ T35 (mkF m 148 #[.val (.int x1), .val (.int x2), .val (.int x3), .val (.int x4), .val (.ref r1), .val (.ref r3), .val (.ref r5), .val (.ref r7), .val (.ref r9), .val (.ref r11), .val (.ref b12), .val (.long z31), .second, .val (.long z32), .second, .val (.long z33), .second, .val (.long (1 : Int64)), .second, .val (.long ((1 : Int64) + (if (x4 &&& 255) = (x1 &&& 255) then (1 : Int64) else 0))), .second, .unset, .unset] [(.ref r3), (.long ((1 : Int64) + (if (x2 &&& 255) = (x1 &&& 255) then (1 : Int64) else 0)))])
  refine own_by (fun t_ k_ => XS.aload X35.here hx rfl (hb hby at_148) rfl rfl k_) ?_
  show own_Go p e below _ T35 (mkF m 150 #[.val (.int x1), .val (.int x2), .val (.int x3), .val (.int x4), .val (.ref r1), .val (.ref r3), .val (.ref r5), .val (.ref r7), .val (.ref r9), .val (.ref r11), .val (.ref b12), .val (.long z31), .second, .val (.long z32), .second, .val (.long z33), .second, .val (.long (1 : Int64)), .second, .val (.long ((1 : Int64) + (if (x4 &&& 255) = (x1 &&& 255) then (1 : Int64) else 0))), .second, .unset, .unset] [(.ref r11), (.ref r3), (.long ((1 : Int64) + (if (x2 &&& 255) = (x1 &&& 255) then (1 : Int64) else 0)))])
  refine own_callS (W := 2) X35 hx hZ (y := (⟨"com/example/hedgewalk/hedgewalk/input/ChildCountsClearPinLaw", "eq", "(Ljava/lang/String;Ljava/lang/String;)J"⟩ : MethodName)) hown (own_w hw 88 rfl) (own_w hw 89 rfl) (own_w hw 2 rfl) (own_w hw 90 rfl) (by decide) (by rw [hml]; rfl) (argsL := [(.ref r3), (.ref r11)]) pd_13 rfl (rm16 l Z a0 hw [] r3 r11 (x2 &&& 255) (x4 &&& 255) cs T33.heap n0 sz33 S33 hcs (M33 _ hm_r3).1 (M33 _ hm_r11).1 (M33 _ hm_r3).2.1 (M33 _ hm_r11).2.1) (by decide) (by decide) (Nat.le_of_eq rfl) (by decide) (by decide) (rest := [(.long ((1 : Int64) + (if (x2 &&& 255) = (x1 &&& 255) then (1 : Int64) else 0)))]) e35 rfl (hb hby at_150) ?_
  intro v36 T36 L36 X36 hQ36
  obtain ⟨rfl, N36q, e36⟩ := hQ36
  have N36 := Fr.app N35 N36q
  show own_Go p e below _ T36 (mkF m 153 #[.val (.int x1), .val (.int x2), .val (.int x3), .val (.int x4), .val (.ref r1), .val (.ref r3), .val (.ref r5), .val (.ref r7), .val (.ref r9), .val (.ref r11), .val (.ref b12), .val (.long z31), .second, .val (.long z32), .second, .val (.long z33), .second, .val (.long (1 : Int64)), .second, .val (.long ((1 : Int64) + (if (x4 &&& 255) = (x1 &&& 255) then (1 : Int64) else 0))), .second, .unset, .unset] [(.long (if (x2 &&& 255) = (x4 &&& 255) then (1 : Int64) else 0)), (.long ((1 : Int64) + (if (x2 &&& 255) = (x1 &&& 255) then (1 : Int64) else 0)))])
  refine own_by (fun t_ k_ => XT.ladd X36.here hx rfl (hb hby at_153) rfl k_) ?_
  show own_Go p e below _ T36 (mkF m 154 #[.val (.int x1), .val (.int x2), .val (.int x3), .val (.int x4), .val (.ref r1), .val (.ref r3), .val (.ref r5), .val (.ref r7), .val (.ref r9), .val (.ref r11), .val (.ref b12), .val (.long z31), .second, .val (.long z32), .second, .val (.long z33), .second, .val (.long (1 : Int64)), .second, .val (.long ((1 : Int64) + (if (x4 &&& 255) = (x1 &&& 255) then (1 : Int64) else 0))), .second, .unset, .unset] [(.long (((1 : Int64) + (if (x2 &&& 255) = (x1 &&& 255) then (1 : Int64) else 0)) + (if (x2 &&& 255) = (x4 &&& 255) then (1 : Int64) else 0)))])
  refine own_by (fun t_ k_ => XT.lstore X36.here hx rfl (hb hby at_154) rfl (l' := #[.val (.int x1), .val (.int x2), .val (.int x3), .val (.int x4), .val (.ref r1), .val (.ref r3), .val (.ref r5), .val (.ref r7), .val (.ref r9), .val (.ref r11), .val (.ref b12), .val (.long z31), .second, .val (.long z32), .second, .val (.long z33), .second, .val (.long (1 : Int64)), .second, .val (.long ((1 : Int64) + (if (x4 &&& 255) = (x1 &&& 255) then (1 : Int64) else 0))), .second, .val (.long (((1 : Int64) + (if (x2 &&& 255) = (x1 &&& 255) then (1 : Int64) else 0)) + (if (x2 &&& 255) = (x4 &&& 255) then (1 : Int64) else 0))), .second]) rfl k_) ?_
  show own_Go p e below _ T36 (mkF m 156 #[.val (.int x1), .val (.int x2), .val (.int x3), .val (.int x4), .val (.ref r1), .val (.ref r3), .val (.ref r5), .val (.ref r7), .val (.ref r9), .val (.ref r11), .val (.ref b12), .val (.long z31), .second, .val (.long z32), .second, .val (.long z33), .second, .val (.long (1 : Int64)), .second, .val (.long ((1 : Int64) + (if (x4 &&& 255) = (x1 &&& 255) then (1 : Int64) else 0))), .second, .val (.long (((1 : Int64) + (if (x2 &&& 255) = (x1 &&& 255) then (1 : Int64) else 0)) + (if (x2 &&& 255) = (x4 &&& 255) then (1 : Int64) else 0))), .second] [])
  refine own_by (fun t_ k_ => XT.lload X36.here hx rfl (hb hby at_156) rfl k_) ?_
  show own_Go p e below _ T36 (mkF m 158 #[.val (.int x1), .val (.int x2), .val (.int x3), .val (.int x4), .val (.ref r1), .val (.ref r3), .val (.ref r5), .val (.ref r7), .val (.ref r9), .val (.ref r11), .val (.ref b12), .val (.long z31), .second, .val (.long z32), .second, .val (.long z33), .second, .val (.long (1 : Int64)), .second, .val (.long ((1 : Int64) + (if (x4 &&& 255) = (x1 &&& 255) then (1 : Int64) else 0))), .second, .val (.long (((1 : Int64) + (if (x2 &&& 255) = (x1 &&& 255) then (1 : Int64) else 0)) + (if (x2 &&& 255) = (x4 &&& 255) then (1 : Int64) else 0))), .second] [(.long z31)])
  refine own_by (fun t_ k_ => XT.lload X36.here hx rfl (hb hby at_158) rfl k_) ?_
  show own_Go p e below _ T36 (mkF m 160 #[.val (.int x1), .val (.int x2), .val (.int x3), .val (.int x4), .val (.ref r1), .val (.ref r3), .val (.ref r5), .val (.ref r7), .val (.ref r9), .val (.ref r11), .val (.ref b12), .val (.long z31), .second, .val (.long z32), .second, .val (.long z33), .second, .val (.long (1 : Int64)), .second, .val (.long ((1 : Int64) + (if (x4 &&& 255) = (x1 &&& 255) then (1 : Int64) else 0))), .second, .val (.long (((1 : Int64) + (if (x2 &&& 255) = (x1 &&& 255) then (1 : Int64) else 0)) + (if (x2 &&& 255) = (x4 &&& 255) then (1 : Int64) else 0))), .second] [(.long (1 : Int64)), (.long z31)])
  refine own_by (fun t_ k_ => XT.lcmp X36.here hx rfl (hb hby at_160) rfl k_) ?_
  show own_Go p e below _ T36 (mkF m 161 #[.val (.int x1), .val (.int x2), .val (.int x3), .val (.int x4), .val (.ref r1), .val (.ref r3), .val (.ref r5), .val (.ref r7), .val (.ref r9), .val (.ref r11), .val (.ref b12), .val (.long z31), .second, .val (.long z32), .second, .val (.long z33), .second, .val (.long (1 : Int64)), .second, .val (.long ((1 : Int64) + (if (x4 &&& 255) = (x1 &&& 255) then (1 : Int64) else 0))), .second, .val (.long (((1 : Int64) + (if (x2 &&& 255) = (x1 &&& 255) then (1 : Int64) else 0)) + (if (x2 &&& 255) = (x4 &&& 255) then (1 : Int64) else 0))), .second] [(.int (XT.cmpL z31 (1 : Int64)))])
  refine own_if X36 hx 184 (hb hby at_161) (by decide) (by decide) (fun hc => absurd (show (XT.cmpL z31 (1 : Int64)) = (0 : Int32) from own_ceq q1) (by first | exact hc | exact not_not_intro hc)) (fun _ => ?_)
  show own_Go p e below _ T36 (mkF m 164 #[.val (.int x1), .val (.int x2), .val (.int x3), .val (.int x4), .val (.ref r1), .val (.ref r3), .val (.ref r5), .val (.ref r7), .val (.ref r9), .val (.ref r11), .val (.ref b12), .val (.long z31), .second, .val (.long z32), .second, .val (.long z33), .second, .val (.long (1 : Int64)), .second, .val (.long ((1 : Int64) + (if (x4 &&& 255) = (x1 &&& 255) then (1 : Int64) else 0))), .second, .val (.long (((1 : Int64) + (if (x2 &&& 255) = (x1 &&& 255) then (1 : Int64) else 0)) + (if (x2 &&& 255) = (x4 &&& 255) then (1 : Int64) else 0))), .second] [])
  refine own_by (fun t_ k_ => XT.lload X36.here hx rfl (hb hby at_164) rfl k_) ?_
  show own_Go p e below _ T36 (mkF m 166 #[.val (.int x1), .val (.int x2), .val (.int x3), .val (.int x4), .val (.ref r1), .val (.ref r3), .val (.ref r5), .val (.ref r7), .val (.ref r9), .val (.ref r11), .val (.ref b12), .val (.long z31), .second, .val (.long z32), .second, .val (.long z33), .second, .val (.long (1 : Int64)), .second, .val (.long ((1 : Int64) + (if (x4 &&& 255) = (x1 &&& 255) then (1 : Int64) else 0))), .second, .val (.long (((1 : Int64) + (if (x2 &&& 255) = (x1 &&& 255) then (1 : Int64) else 0)) + (if (x2 &&& 255) = (x4 &&& 255) then (1 : Int64) else 0))), .second] [(.long z32)])
  refine own_by (fun t_ k_ => XT.lload X36.here hx rfl (hb hby at_166) rfl k_) ?_
  show own_Go p e below _ T36 (mkF m 168 #[.val (.int x1), .val (.int x2), .val (.int x3), .val (.int x4), .val (.ref r1), .val (.ref r3), .val (.ref r5), .val (.ref r7), .val (.ref r9), .val (.ref r11), .val (.ref b12), .val (.long z31), .second, .val (.long z32), .second, .val (.long z33), .second, .val (.long (1 : Int64)), .second, .val (.long ((1 : Int64) + (if (x4 &&& 255) = (x1 &&& 255) then (1 : Int64) else 0))), .second, .val (.long (((1 : Int64) + (if (x2 &&& 255) = (x1 &&& 255) then (1 : Int64) else 0)) + (if (x2 &&& 255) = (x4 &&& 255) then (1 : Int64) else 0))), .second] [(.long ((1 : Int64) + (if (x4 &&& 255) = (x1 &&& 255) then (1 : Int64) else 0))), (.long z32)])
  refine own_by (fun t_ k_ => XT.lcmp X36.here hx rfl (hb hby at_168) rfl k_) ?_
  show own_Go p e below _ T36 (mkF m 169 #[.val (.int x1), .val (.int x2), .val (.int x3), .val (.int x4), .val (.ref r1), .val (.ref r3), .val (.ref r5), .val (.ref r7), .val (.ref r9), .val (.ref r11), .val (.ref b12), .val (.long z31), .second, .val (.long z32), .second, .val (.long z33), .second, .val (.long (1 : Int64)), .second, .val (.long ((1 : Int64) + (if (x4 &&& 255) = (x1 &&& 255) then (1 : Int64) else 0))), .second, .val (.long (((1 : Int64) + (if (x2 &&& 255) = (x1 &&& 255) then (1 : Int64) else 0)) + (if (x2 &&& 255) = (x4 &&& 255) then (1 : Int64) else 0))), .second] [(.int (XT.cmpL z32 ((1 : Int64) + (if (x4 &&& 255) = (x1 &&& 255) then (1 : Int64) else 0))))])
  refine own_if X36 hx 184 (hb hby at_169) (by decide) (by decide) (fun hc => absurd (show (XT.cmpL z32 ((1 : Int64) + (if (x4 &&& 255) = (x1 &&& 255) then (1 : Int64) else 0))) = (0 : Int32) from own_ceq q2) (by first | exact hc | exact not_not_intro hc)) (fun _ => ?_)
  show own_Go p e below _ T36 (mkF m 172 #[.val (.int x1), .val (.int x2), .val (.int x3), .val (.int x4), .val (.ref r1), .val (.ref r3), .val (.ref r5), .val (.ref r7), .val (.ref r9), .val (.ref r11), .val (.ref b12), .val (.long z31), .second, .val (.long z32), .second, .val (.long z33), .second, .val (.long (1 : Int64)), .second, .val (.long ((1 : Int64) + (if (x4 &&& 255) = (x1 &&& 255) then (1 : Int64) else 0))), .second, .val (.long (((1 : Int64) + (if (x2 &&& 255) = (x1 &&& 255) then (1 : Int64) else 0)) + (if (x2 &&& 255) = (x4 &&& 255) then (1 : Int64) else 0))), .second] [])
  refine own_by (fun t_ k_ => XT.lload X36.here hx rfl (hb hby at_172) rfl k_) ?_
  show own_Go p e below _ T36 (mkF m 174 #[.val (.int x1), .val (.int x2), .val (.int x3), .val (.int x4), .val (.ref r1), .val (.ref r3), .val (.ref r5), .val (.ref r7), .val (.ref r9), .val (.ref r11), .val (.ref b12), .val (.long z31), .second, .val (.long z32), .second, .val (.long z33), .second, .val (.long (1 : Int64)), .second, .val (.long ((1 : Int64) + (if (x4 &&& 255) = (x1 &&& 255) then (1 : Int64) else 0))), .second, .val (.long (((1 : Int64) + (if (x2 &&& 255) = (x1 &&& 255) then (1 : Int64) else 0)) + (if (x2 &&& 255) = (x4 &&& 255) then (1 : Int64) else 0))), .second] [(.long z33)])
  refine own_by (fun t_ k_ => XT.lload X36.here hx rfl (hb hby at_174) rfl k_) ?_
  show own_Go p e below _ T36 (mkF m 176 #[.val (.int x1), .val (.int x2), .val (.int x3), .val (.int x4), .val (.ref r1), .val (.ref r3), .val (.ref r5), .val (.ref r7), .val (.ref r9), .val (.ref r11), .val (.ref b12), .val (.long z31), .second, .val (.long z32), .second, .val (.long z33), .second, .val (.long (1 : Int64)), .second, .val (.long ((1 : Int64) + (if (x4 &&& 255) = (x1 &&& 255) then (1 : Int64) else 0))), .second, .val (.long (((1 : Int64) + (if (x2 &&& 255) = (x1 &&& 255) then (1 : Int64) else 0)) + (if (x2 &&& 255) = (x4 &&& 255) then (1 : Int64) else 0))), .second] [(.long (((1 : Int64) + (if (x2 &&& 255) = (x1 &&& 255) then (1 : Int64) else 0)) + (if (x2 &&& 255) = (x4 &&& 255) then (1 : Int64) else 0))), (.long z33)])
  refine own_by (fun t_ k_ => XT.lcmp X36.here hx rfl (hb hby at_176) rfl k_) ?_
  show own_Go p e below _ T36 (mkF m 177 #[.val (.int x1), .val (.int x2), .val (.int x3), .val (.int x4), .val (.ref r1), .val (.ref r3), .val (.ref r5), .val (.ref r7), .val (.ref r9), .val (.ref r11), .val (.ref b12), .val (.long z31), .second, .val (.long z32), .second, .val (.long z33), .second, .val (.long (1 : Int64)), .second, .val (.long ((1 : Int64) + (if (x4 &&& 255) = (x1 &&& 255) then (1 : Int64) else 0))), .second, .val (.long (((1 : Int64) + (if (x2 &&& 255) = (x1 &&& 255) then (1 : Int64) else 0)) + (if (x2 &&& 255) = (x4 &&& 255) then (1 : Int64) else 0))), .second] [(.int (XT.cmpL z33 (((1 : Int64) + (if (x2 &&& 255) = (x1 &&& 255) then (1 : Int64) else 0)) + (if (x2 &&& 255) = (x4 &&& 255) then (1 : Int64) else 0))))])
  refine own_if X36 hx 184 (hb hby at_177) (by decide) (by decide) (fun hc => absurd (show (XT.cmpL z33 (((1 : Int64) + (if (x2 &&& 255) = (x1 &&& 255) then (1 : Int64) else 0)) + (if (x2 &&& 255) = (x4 &&& 255) then (1 : Int64) else 0))) = (0 : Int32) from own_ceq q3) (by first | exact hc | exact not_not_intro hc)) (fun _ => ?_)
  show own_Go p e below _ T36 (mkF m 180 #[.val (.int x1), .val (.int x2), .val (.int x3), .val (.int x4), .val (.ref r1), .val (.ref r3), .val (.ref r5), .val (.ref r7), .val (.ref r9), .val (.ref r11), .val (.ref b12), .val (.long z31), .second, .val (.long z32), .second, .val (.long z33), .second, .val (.long (1 : Int64)), .second, .val (.long ((1 : Int64) + (if (x4 &&& 255) = (x1 &&& 255) then (1 : Int64) else 0))), .second, .val (.long (((1 : Int64) + (if (x2 &&& 255) = (x1 &&& 255) then (1 : Int64) else 0)) + (if (x2 &&& 255) = (x4 &&& 255) then (1 : Int64) else 0))), .second] [])
  refine own_by (fun t_ k_ => XS.iconst X36.here hx rfl (hb hby at_180) k_) ?_
  show own_Go p e below _ T36 (mkF m 181 #[.val (.int x1), .val (.int x2), .val (.int x3), .val (.int x4), .val (.ref r1), .val (.ref r3), .val (.ref r5), .val (.ref r7), .val (.ref r9), .val (.ref r11), .val (.ref b12), .val (.long z31), .second, .val (.long z32), .second, .val (.long z33), .second, .val (.long (1 : Int64)), .second, .val (.long ((1 : Int64) + (if (x4 &&& 255) = (x1 &&& 255) then (1 : Int64) else 0))), .second, .val (.long (((1 : Int64) + (if (x2 &&& 255) = (x1 &&& 255) then (1 : Int64) else 0)) + (if (x2 &&& 255) = (x4 &&& 255) then (1 : Int64) else 0))), .second] [(.int (1 : Int32))])
  refine own_by (fun t_ k_ => XS.goto X36.here hx rfl (pc0 := 181) (pc' := 185) rfl (hb hby at_181) (by decide) (by decide) k_) ?_
  show own_Go p e below _ T36 (mkF m 185 #[.val (.int x1), .val (.int x2), .val (.int x3), .val (.int x4), .val (.ref r1), .val (.ref r3), .val (.ref r5), .val (.ref r7), .val (.ref r9), .val (.ref r11), .val (.ref b12), .val (.long z31), .second, .val (.long z32), .second, .val (.long z33), .second, .val (.long (1 : Int64)), .second, .val (.long ((1 : Int64) + (if (x4 &&& 255) = (x1 &&& 255) then (1 : Int64) else 0))), .second, .val (.long (((1 : Int64) + (if (x2 &&& 255) = (x1 &&& 255) then (1 : Int64) else 0)) + (if (x2 &&& 255) = (x4 &&& 255) then (1 : Int64) else 0))), .second] [(.int (1 : Int32))])
  refine own_retZ X36 hx hlk Bd.returns (by decide) (hb hby at_185) e36 (by decide) (by decide) ?_
  exact ⟨rfl, N36⟩
set_option maxRecDepth 65536 in
set_option maxHeartbeats 40000000 in
theorem comes_1 {Post : Tables → Env → Array Value → State → Outcome → State → Prop} (hpost : ∀ tb e args s v u, (limb_1_1.after args s (.returned v) u = true ∧ limb_1_2.after args s (.returned v) u = true ∧ True) → FrameEnd s (.returned v) u (Jvm.fieldLocs frame_1_writes args s ++ Jvm.arrayLocs frame_1_arrays args s ++ Jvm.staticLocs frame_1_statics s) 48 256 → Post tb e args s (.returned v) u) :
    ArmFor flags0 classFile x code maxLocals ret World_1 tables_1 room_1 Calls_1 rest_1 Pre_1 Post := by
  intro l hfl _ _ p e ha hc hk s m args below hf hA hF happ hP
  obtain ⟨hcalls, hrest, hpre⟩ := hP
  obtain ⟨-, -, -, hnamed, -, -, -, hat⟩ := (Spec.applies_iff hf).mp happ
  obtain ⟨hg, hn⟩ := and_e (Cond.before_iff.mp (show (Jvm.Cond.and given_1 narrow_1).before args s = true from hpre))
  obtain ⟨gc, gr0⟩ := and_e hg
  obtain ⟨ga0, gr1⟩ := and_e gr0
  obtain ⟨ga1, gr2⟩ := and_e gr1
  obtain ⟨ga2, gr3⟩ := and_e gr2
  obtain ⟨w0, w1, w2, w3, rfl⟩ : ∃ w0 w1 w2 w3 : Value, args = #[w0, w1, w2, w3] := by
    have hs : args.size = 4 := by simpa [Cond.value, given_1] using gc
    obtain ⟨L⟩ := args
    match L, hs with
    | [w0, w1, w2, w3], _ => exact ⟨w0, w1, w2, w3, rfl⟩
  have hw := fun d (hd : d ∈ tables_1) => atoms_spec (ws := Jvm.Cond.code x code maxLocals ret :: tables_1) hat d (List.mem_cons_of_mem _ hd)
  have hfit : Fit s := fun {y c} hc i hi => by
    obtain ⟨ha, rfl⟩ := Array.getElem?_eq_some_iff.mp hc
    have q := List.all_eq_true.mp ((Array.all_eq_true_iff_forall_mem.mp hF) _ (Array.getElem_mem ha)) i (List.mem_range.mpr hi)
    simpa [Array.getElem?_eq_getElem hi] using q
  obtain ⟨i0, ei0⟩ := is_v ga0
  obtain rfl : w0 = (.int i0) := Option.some.inj ei0
  obtain ⟨i1, ei1⟩ := is_v ga1
  obtain rfl : w1 = (.int i1) := Option.some.inj ei1
  obtain ⟨i2, ei2⟩ := is_v ga2
  obtain rfl : w2 = (.int i2) := Option.some.inj ei2
  obtain ⟨i3, ei3⟩ := is_v gr3
  obtain rfl : w3 = (.int i3) := Option.some.inj ei3
  obtain ⟨hsets, hown0⟩ := atoms_of _ (rest_1_c_eq ▸ (show rest_1_c.before _ s = true from hrest))
  obtain ⟨cs, ecs⟩ := is_v (Cond.before_iff.mp (hsets _ (List.mem_of_getElem? (i := 1) rfl)))
  have S_cs : Sta s s.heap "java/lang/String" "COMPACT_STRINGS" "Z" (.int cs) := Sta.start ecs (Or.inl (hsets _ (List.mem_of_getElem? (i := 0) rfl)))
  have hcs : ¬ cs = 0 := own_notI ecs (Cond.before_iff.mp (hsets _ (List.mem_of_getElem? (i := 2) rfl)))
  obtain ⟨n, o, h1, h2, h3, _, L, rfl, ⟨rfl, N⟩, hq⟩ := rm0 l s _ hw tables_1 i0 i1 i2 i3 cs s.heap s.heap.size (Nat.le_refl _) S_cs hcs p e ha hc hk s m _ below hf ((Spec.applies_iff_loose hf).mp happ).1 ⟨rfl, State.Warmed39.refl s, rfl⟩ trivial
  refine ⟨n, _, h1, h2, h3, hpost _ _ _ _ _ _ ⟨Cond.after_iff.mpr rfl, Cond.after_iff.mpr (eq_i res_at (Term.int_eval (1)) rfl), trivial⟩ ⟨hq.1, hq.2.1, (hq.2.2.sift fun y hy => Or.inr (N y hy)).mono (by decide) (by decide)⟩⟩
theorem main_1_1 : Claimed_1_1 := comes_1 fun _ _ _ _ _ _ h hF => ⟨h.1, hF⟩
theorem main_1_2 : Claimed_1_2 := comes_1 fun _ _ _ _ _ _ h hF => ⟨h.2.1, hF⟩
end Jvm.Pilot.@@N@@
namespace Jvm.Pilot.@@N@@
open Jvm Jvm.ClassFile Sem Op Lib Jvm.Free Jvm.Stand Jvm.Pilot.@@N@@.Jvm.D
/-! MADE BY PROGRAM (witnessworld.py) out of the Statement's table words and the real class files: 20 classes; the members and pool entries that the words name. The judged class is class 1, her method 3. -/
namespace start1
open Jvm.ClassFile
def u (s : String) : CpInfo := .utf8 (stringToUtf16 s)
/-- a pool by its gaps: so many unusable entries, then the entry; so many at the end -/
def gap : Nat → List CpInfo → List CpInfo
  | 0, r => r
  | n + 1, r => .unusable :: gap n r
def poolList (es : List (Nat × CpInfo)) (last : Nat) : List CpInfo := es.foldr (fun e r => gap e.1 (e.2 :: r)) (gap last [])
def pool (es : List (Nat × CpInfo)) (last : Nat) : Array CpInfo := ⟨poolList es last⟩
def fileOf (pool : Array CpInfo) (this : Nat) (attrs : Array Attribute := #[]) (ms : Array MethodInfo := #[]) (fl : Nat := 33) (sup : Nat := 0) (ifs : Array Nat := #[]) (fds : Array FieldInfo := #[]) : ClassFile where
  minorVersion := 0
  majorVersion := 65
  constantPool := pool
  accessFlags := fl
  thisClass := this
  superClass := sup
  interfaces := ifs
  fields := fds
  methods := ms
  attributes := attrs
def plain (name : String) (sup : Option ClassId) : Class where
  name := name
  kind := .ordinary
  loader := none
  accessFlags := 33
  super := sup
  interfaces := #[]
  cf := none
  fields := #[]
  methods := #[]
  instanceTypes := #[]
  staticTypes := #[]
  resolved := #[]
  callSites := []
  init := .initialized
  statics := none
  mirror := none

def pool0 : Array CpInfo := pool [(5, u "<init>"), (0, u "()V"), (1, .class_ 10), (1, u "java/lang/Object")] 113

def k0c0 : Code := { maxStack := 0, maxLocals := 1, code := object_method_1_code, exceptionTable := #[], attributes := #[] }
def k0m0 : Method := { name := "<init>", desc := "()V", sig := { parameters := [], returnType := none }, accessFlags := 1, code := some k0c0 }
/-- java/lang/Object -/
def k0 : Class := { plain "java/lang/Object" none with
  accessFlags := 33
  interfaces := #[]
  cf := some (fileOf pool0 8 #[] #[{ accessFlags := 1, nameIndex := 5, descriptorIndex := 6, attributes := #[] }] 33 0 #[] #[])
  fields := #[]
  methods := #[k0m0]
  instanceTypes := #[]
  staticTypes := #[]
  resolved := Array.replicate 124 none
  statics := none }

def pool1 : Array CpInfo := pool [(2, .class_ 4), (0, .nameAndType 5 6), (0, u "java/lang/Object"), (0, u "<init>"), (0, u "()V"), (0, .methodref 8 9), (0, .class_ 10), (0, .nameAndType 11 12), (0, u "java/lang/String"), (0, u "valueOf"), (0, u "(C)Ljava/lang/String;"), (0, .methodref 8 14), (0, .nameAndType 15 16), (0, u "equals"), (0, u "(Ljava/lang/Object;)Z"), (0, .methodref 18 19), (0, .class_ 20), (0, .nameAndType 21 22), (0, u "com/example/hedgewalk/hedgewalk/input/ChildCountsClearPinLaw"), (0, u "name"), (0, u "(I)Ljava/lang/String;"), (0, .class_ 24), (0, u "com/example/hedgewalk/hedgewalk/input/ChildCounts"), (0, .methodref 23 3), (0, .methodref 23 27), (0, .nameAndType 28 29), (0, u "increment"), (0, u "(Ljava/lang/String;)J"), (0, .methodref 23 31), (0, .nameAndType 32 6), (0, u "clear"), (0, .methodref 18 34), (0, .nameAndType 35 36), (0, u "eq"), (0, u "(Ljava/lang/String;Ljava/lang/String;)J"), (3, u "law"), (0, u "(IIII)Z")] 2

def k1m0 : Method := { name := "<init>", desc := "()V", sig := { parameters := [], returnType := none }, accessFlags := 1, code := none }
def k1c1 : Code := { maxStack := 2, maxLocals := 1, code := method_2_code, exceptionTable := #[], attributes := #[] }
def k1m1 : Method := { name := "name", desc := "(I)Ljava/lang/String;", sig := { parameters := [.int], returnType := some (.object "java/lang/String") }, accessFlags := 10, code := some k1c1 }
def k1c2 : Code := { maxStack := 2, maxLocals := 2, code := method_3_code, exceptionTable := #[], attributes := #[] }
def k1m2 : Method := { name := "eq", desc := "(Ljava/lang/String;Ljava/lang/String;)J", sig := { parameters := [(.object "java/lang/String"), (.object "java/lang/String")], returnType := some .long }, accessFlags := 10, code := some k1c2 }
def k1c3 : Code := { maxStack := 4, maxLocals := 23, code := code, exceptionTable := #[], attributes := #[] }
def k1m3 : Method := { name := "law", desc := "(IIII)Z", sig := { parameters := [.int, .int, .int, .int], returnType := some .boolean }, accessFlags := 9, code := some k1c3 }
/-- com/example/hedgewalk/hedgewalk/input/ChildCountsClearPinLaw -/
def k1 : Class := { plain "com/example/hedgewalk/hedgewalk/input/ChildCountsClearPinLaw" (some 0) with
  accessFlags := 49
  interfaces := #[]
  cf := some (fileOf pool1 18 #[] #[{ accessFlags := 1, nameIndex := 5, descriptorIndex := 6, attributes := #[] }, { accessFlags := 10, nameIndex := 21, descriptorIndex := 22, attributes := #[] }, { accessFlags := 10, nameIndex := 35, descriptorIndex := 36, attributes := #[] }, { accessFlags := 9, nameIndex := 40, descriptorIndex := 41, attributes := #[] }] 49 2 #[] #[])
  fields := #[]
  methods := #[k1m0, k1m1, k1m2, k1m3]
  instanceTypes := #[]
  staticTypes := #[]
  resolved := Array.replicate 44 none
  statics := none }

def pool2 : Array CpInfo := pool [(1, .class_ 2), (0, u "java/io/Serializable"), (0, .class_ 4), (0, u "java/lang/Object")] 2

/-- java/io/Serializable -/
def k2 : Class := { plain "java/io/Serializable" (some 0) with
  accessFlags := 1537
  interfaces := #[]
  cf := some (fileOf pool2 1 #[] #[] 1537 3 #[] #[])
  fields := #[]
  methods := #[]
  instanceTypes := #[]
  staticTypes := #[]
  resolved := Array.replicate 7 none
  statics := none }

def pool3 : Array CpInfo := pool [(1, .class_ 2), (0, u "java/lang/Comparable"), (0, .class_ 4), (0, u "java/lang/Object")] 7

/-- java/lang/Comparable -/
def k3 : Class := { plain "java/lang/Comparable" (some 0) with
  accessFlags := 1537
  interfaces := #[]
  cf := some (fileOf pool3 1 #[] #[] 1537 3 #[] #[])
  fields := #[]
  methods := #[]
  instanceTypes := #[]
  staticTypes := #[]
  resolved := Array.replicate 12 none
  statics := none }

def pool4 : Array CpInfo := pool [(2, .class_ 4), (1, u "java/lang/CharSequence"), (42, .class_ 48), (0, u "java/lang/CharSequence$1CodePointIterator"), (10, .class_ 60), (0, u "java/lang/CharSequence$1CharIterator"), (5, .class_ 67), (0, u "java/lang/Object")] 63

/-- java/lang/CharSequence -/
def k4 : Class := { plain "java/lang/CharSequence" (some 0) with
  accessFlags := 1537
  interfaces := #[]
  cf := some (fileOf pool4 2 #[.nestMembers #[47, 59]] #[] 1537 66 #[] #[])
  fields := #[]
  methods := #[]
  instanceTypes := #[]
  staticTypes := #[]
  resolved := Array.replicate 131 none
  statics := none }

def pool5 : Array CpInfo := pool [(1, .class_ 2), (0, u "java/lang/constant/Constable"), (0, .class_ 4), (0, u "java/lang/Object")] 6

/-- java/lang/constant/Constable -/
def k5 : Class := { plain "java/lang/constant/Constable" (some 0) with
  accessFlags := 1537
  interfaces := #[]
  cf := some (fileOf pool5 1 #[] #[] 1537 3 #[] #[])
  fields := #[]
  methods := #[]
  instanceTypes := #[]
  staticTypes := #[]
  resolved := Array.replicate 11 none
  statics := none }

def pool6 : Array CpInfo := pool [(1, .class_ 2), (0, u "java/lang/constant/ConstantDesc"), (0, .class_ 4), (0, u "java/lang/Object")] 32

/-- java/lang/constant/ConstantDesc -/
def k6 : Class := { plain "java/lang/constant/ConstantDesc" (some 0) with
  accessFlags := 1537
  interfaces := #[]
  cf := some (fileOf pool6 1 #[] #[] 1537 3 #[] #[])
  fields := #[]
  methods := #[]
  instanceTypes := #[]
  staticTypes := #[]
  resolved := Array.replicate 37 none
  statics := none }

def pool7 : Array CpInfo := pool [(1, .methodref 2 3), (0, .class_ 4), (0, .nameAndType 5 6), (0, u "java/lang/Object"), (0, u "<init>"), (0, u "()V"), (2, .fieldref 10 11), (0, .class_ 12), (0, .nameAndType 13 14), (0, u "java/lang/String"), (0, u "value"), (0, u "[B"), (0, .fieldref 10 16), (0, .nameAndType 17 18), (0, u "coder"), (0, u "B"), (0, .fieldref 10 20), (0, .nameAndType 21 22), (0, u "hash"), (0, u "I"), (0, .fieldref 10 24), (0, .nameAndType 25 26), (0, u "hashIsZero"), (0, u "Z"), (11, .fieldref 10 39), (0, .nameAndType 40 26), (0, u "COMPACT_STRINGS"), (12, u "toBytes"), (53, .class_ 109), (1, u "java/lang/StringLatin1"), (32, u "()Z"), (66, .methodref 10 210), (0, .nameAndType 5 211), (0, u "([BB)V"), (122, u "()I"), (34, u "(C)Z"), (122, .methodref 10 493), (0, .nameAndType 494 142), (0, u "isLatin1"), (46, .methodref 107 542), (0, .nameAndType 543 544), (0, u "equals"), (0, u "([B[B)Z"), (28, u "(Ljava/lang/Object;)Z"), (1, .class_ 576), (0, u "java/lang/CharSequence"), (22, u "CASE_INSENSITIVE_ORDER"), (0, u "Ljava/util/Comparator;"), (27, .methodref 107 629), (0, .nameAndType 630 631), (0, u "hashCode"), (0, u "([B)I"), (150, u "valueOf"), (0, u "(C)Ljava/lang/String;"), (231, .methodref 107 1016), (0, .nameAndType 1017 369), (0, u "canEncode"), (0, .methodref 107 1019), (0, .nameAndType 53 1020), (0, u "(C)[B"), (80, u "serialPersistentFields"), (0, u "[Ljava/io/ObjectStreamField;"), (0, .class_ 1104), (0, u "java/lang/String$CaseInsensitiveComparator"), (1, .class_ 1107), (0, u "java/io/Serializable"), (0, .class_ 1109), (0, u "java/lang/Comparable"), (0, .class_ 1111), (0, u "java/lang/constant/Constable"), (0, .class_ 1113), (0, u "java/lang/constant/ConstantDesc"), (2, u "serialVersionUID"), (0, u "J"), (3, u "REPL"), (0, u "C"), (2, u "LATIN1"), (1, u "UTF16")] 323

def k7m0 : Method := { name := "<init>", desc := "()V", sig := { parameters := [], returnType := none }, accessFlags := 1, code := none }
def k7c1 : Code := { maxStack := 2, maxLocals := 3, code := jdk_42_method_66_code, exceptionTable := #[], attributes := #[] }
def k7m1 : Method := { name := "equals", desc := "(Ljava/lang/Object;)Z", sig := { parameters := [(.object "java/lang/Object")], returnType := some .boolean }, accessFlags := 1, code := some k7c1 }
def k7c2 : Code := { maxStack := 2, maxLocals := 2, code := jdk_42_method_78_code, exceptionTable := #[], attributes := #[] }
def k7m2 : Method := { name := "hashCode", desc := "()I", sig := { parameters := [], returnType := some .int }, accessFlags := 1, code := some k7c2 }
def k7c3 : Code := { maxStack := 4, maxLocals := 1, code := jdk_42_method_139_code, exceptionTable := #[], attributes := #[] }
def k7m3 : Method := { name := "valueOf", desc := "(C)Ljava/lang/String;", sig := { parameters := [.char], returnType := some (.object "java/lang/String") }, accessFlags := 9, code := some k7c3 }
def k7c4 : Code := { maxStack := 2, maxLocals := 3, code := jdk_42_method_151_code, exceptionTable := #[], attributes := #[] }
def k7m4 : Method := { name := "<init>", desc := "([BB)V", sig := { parameters := [(.array .byte), .byte], returnType := none }, accessFlags := 0, code := some k7c4 }
def k7c5 : Code := { maxStack := 1, maxLocals := 1, code := jdk_42_method_154_code, exceptionTable := #[], attributes := #[] }
def k7m5 : Method := { name := "isLatin1", desc := "()Z", sig := { parameters := [], returnType := some .boolean }, accessFlags := 0, code := some k7c5 }
/-- java/lang/String -/
def k7 : Class := { plain "java/lang/String" (some 0) with
  accessFlags := 49
  interfaces := #[2, 3, 4, 5, 6]
  cf := some (fileOf pool7 10 #[.nestMembers #[1103]] #[{ accessFlags := 1, nameIndex := 5, descriptorIndex := 6, attributes := #[] }, { accessFlags := 1, nameIndex := 543, descriptorIndex := 573, attributes := #[] }, { accessFlags := 1, nameIndex := 630, descriptorIndex := 334, attributes := #[] }, { accessFlags := 9, nameIndex := 782, descriptorIndex := 783, attributes := #[] }, { accessFlags := 0, nameIndex := 5, descriptorIndex := 211, attributes := #[] }, { accessFlags := 0, nameIndex := 494, descriptorIndex := 142, attributes := #[] }] 49 2 #[1106, 1108, 575, 1110, 1112] #[{ accessFlags := 18, nameIndex := 13, descriptorIndex := 14, attributes := #[] }, { accessFlags := 18, nameIndex := 17, descriptorIndex := 18, attributes := #[] }, { accessFlags := 2, nameIndex := 21, descriptorIndex := 22, attributes := #[] }, { accessFlags := 2, nameIndex := 25, descriptorIndex := 26, attributes := #[] }, { accessFlags := 26, nameIndex := 1116, descriptorIndex := 1117, attributes := #[] }, { accessFlags := 24, nameIndex := 40, descriptorIndex := 26, attributes := #[] }, { accessFlags := 26, nameIndex := 1101, descriptorIndex := 1102, attributes := #[] }, { accessFlags := 26, nameIndex := 1121, descriptorIndex := 1122, attributes := #[] }, { accessFlags := 25, nameIndex := 599, descriptorIndex := 600, attributes := #[] }, { accessFlags := 24, nameIndex := 1125, descriptorIndex := 18, attributes := #[] }, { accessFlags := 24, nameIndex := 1127, descriptorIndex := 18, attributes := #[] }])
  fields := #[{ name := "value", type := (.array .byte), accessFlags := 18, slot := 0, constantValue := 0 }, { name := "coder", type := .byte, accessFlags := 18, slot := 1, constantValue := 0 }, { name := "hash", type := .int, accessFlags := 2, slot := 2, constantValue := 0 }, { name := "hashIsZero", type := .boolean, accessFlags := 2, slot := 3, constantValue := 0 }, { name := "serialVersionUID", type := .long, accessFlags := 26, slot := 0, constantValue := 0 }, { name := "COMPACT_STRINGS", type := .boolean, accessFlags := 24, slot := 1, constantValue := 0 }, { name := "serialPersistentFields", type := (.array (.object "java/io/ObjectStreamField")), accessFlags := 26, slot := 2, constantValue := 0 }, { name := "REPL", type := .char, accessFlags := 26, slot := 3, constantValue := 0 }, { name := "CASE_INSENSITIVE_ORDER", type := (.object "java/util/Comparator"), accessFlags := 25, slot := 4, constantValue := 0 }, { name := "LATIN1", type := .byte, accessFlags := 24, slot := 5, constantValue := 0 }, { name := "UTF16", type := .byte, accessFlags := 24, slot := 6, constantValue := 0 }]
  methods := #[k7m0, k7m1, k7m2, k7m3, k7m4, k7m5]
  instanceTypes := #[(.array .byte), .byte, .int, .boolean]
  staticTypes := #[.long, .boolean, (.array (.object "java/io/ObjectStreamField")), .char, (.object "java/util/Comparator"), .byte, .byte]
  resolved := Array.replicate 1451 none
  statics := some 0 }

def pool8 : Array CpInfo := pool [(4, .class_ 6), (1, u "java/lang/Object"), (0, u "<init>"), (0, u "()V"), (5, .class_ 16), (1, u "java/lang/StringLatin1"), (40, u "([B)I"), (32, u "canEncode"), (14, u "(C)Z"), (15, u "$assertionsDisabled"), (0, u "Z"), (98, .class_ 223), (1, u "java/lang/StringLatin1$LinesSpliterator"), (57, u "equals"), (0, u "([B[B)Z"), (15, u "hashCode"), (81, u "toBytes"), (1, u "(C)[B"), (7, .class_ 391), (0, u "java/lang/StringLatin1$CharsSpliterator")] 3

def k8m0 : Method := { name := "<init>", desc := "()V", sig := { parameters := [], returnType := none }, accessFlags := 0, code := none }
def k8c1 : Code := { maxStack := 2, maxLocals := 1, code := jdk_43_method_3_code, exceptionTable := #[], attributes := #[] }
def k8m1 : Method := { name := "canEncode", desc := "(C)Z", sig := { parameters := [.char], returnType := some .boolean }, accessFlags := 9, code := some k8c1 }
def k8c2 : Code := { maxStack := 3, maxLocals := 3, code := jdk_43_method_13_code, exceptionTable := #[], attributes := #[] }
def k8m2 : Method := { name := "equals", desc := "([B[B)Z", sig := { parameters := [(.array .byte), (.array .byte)], returnType := some .boolean }, accessFlags := 9, code := some k8c2 }
def k8c3 : Code := { maxStack := 5, maxLocals := 1, code := jdk_43_method_21_code, exceptionTable := #[], attributes := #[] }
def k8m3 : Method := { name := "hashCode", desc := "([B)I", sig := { parameters := [(.array .byte)], returnType := some .int }, accessFlags := 9, code := some k8c3 }
def k8c4 : Code := { maxStack := 4, maxLocals := 1, code := jdk_43_method_46_code, exceptionTable := #[], attributes := #[] }
def k8m4 : Method := { name := "toBytes", desc := "(C)[B", sig := { parameters := [.char], returnType := some (.array .byte) }, accessFlags := 9, code := some k8c4 }
/-- java/lang/StringLatin1 -/
def k8 : Class := { plain "java/lang/StringLatin1" (some 0) with
  accessFlags := 48
  interfaces := #[]
  cf := some (fileOf pool8 14 #[.nestMembers #[390, 221]] #[{ accessFlags := 0, nameIndex := 7, descriptorIndex := 8, attributes := #[] }, { accessFlags := 9, nameIndex := 90, descriptorIndex := 105, attributes := #[] }, { accessFlags := 9, nameIndex := 281, descriptorIndex := 282, attributes := #[] }, { accessFlags := 9, nameIndex := 298, descriptorIndex := 57, attributes := #[] }, { accessFlags := 9, nameIndex := 380, descriptorIndex := 382, attributes := #[] }] 48 4 #[] #[{ accessFlags := 4120, nameIndex := 121, descriptorIndex := 122, attributes := #[] }])
  fields := #[{ name := "$assertionsDisabled", type := .boolean, accessFlags := 4120, slot := 0, constantValue := 0 }]
  methods := #[k8m0, k8m1, k8m2, k8m3, k8m4]
  instanceTypes := #[]
  staticTypes := #[.boolean]
  resolved := Array.replicate 395 none
  statics := none }

def pool9 : Array CpInfo := pool [(1, .methodref 2 3), (0, .class_ 4), (0, .nameAndType 5 6), (0, u "java/lang/Object"), (0, u "<init>"), (0, u "()V"), (0, .class_ 8), (0, u "com/example/hedgewalk/hedgewalk/input/ChildCounts"), (0, .class_ 10), (0, u "java/lang/String"), (0, .fieldref 7 12), (0, .nameAndType 13 14), (0, u "names"), (0, u "[Ljava/lang/String;"), (0, .fieldref 7 16), (0, .nameAndType 17 18), (0, u "counts"), (0, u "[J"), (0, .fieldref 7 20), (0, .nameAndType 21 22), (0, u "used"), (0, u "[I"), (0, .methodref 7 24), (0, .nameAndType 25 26), (0, u "slotOf"), (0, u "(Ljava/lang/String;)I"), (0, .fieldref 7 28), (0, .nameAndType 29 30), (0, u "size"), (0, u "I"), (0, .methodref 7 32), (0, .nameAndType 33 6), (0, u "grow"), (0, .methodref 9 35), (0, .nameAndType 36 37), (0, u "hashCode"), (0, u "()I"), (0, .methodref 9 39), (0, .nameAndType 40 41), (0, u "equals"), (0, u "(Ljava/lang/Object;)Z"), (0, u "INITIAL_SLOTS"), (4, u "increment"), (0, u "(Ljava/lang/String;)J"), (1, u "clear")] 5

def k9c0 : Code := { maxStack := 2, maxLocals := 1, code := prog_87_method_1_code, exceptionTable := #[], attributes := #[] }
def k9m0 : Method := { name := "<init>", desc := "()V", sig := { parameters := [], returnType := none }, accessFlags := 0, code := some k9c0 }
def k9c1 : Code := { maxStack := 6, maxLocals := 3, code := prog_87_method_2_code, exceptionTable := #[], attributes := #[] }
def k9m1 : Method := { name := "increment", desc := "(Ljava/lang/String;)J", sig := { parameters := [(.object "java/lang/String")], returnType := some .long }, accessFlags := 0, code := some k9c1 }
def k9c2 : Code := { maxStack := 3, maxLocals := 2, code := prog_87_method_3_code, exceptionTable := #[], attributes := #[] }
def k9m2 : Method := { name := "clear", desc := "()V", sig := { parameters := [], returnType := none }, accessFlags := 0, code := some k9c2 }
def k9c3 : Code := { maxStack := 3, maxLocals := 5, code := prog_87_method_4_code, exceptionTable := #[], attributes := #[] }
def k9m3 : Method := { name := "slotOf", desc := "(Ljava/lang/String;)I", sig := { parameters := [(.object "java/lang/String")], returnType := some .int }, accessFlags := 2, code := some k9c3 }
def k9c4 : Code := { maxStack := 5, maxLocals := 6, code := prog_87_method_5_code, exceptionTable := #[], attributes := #[] }
def k9m4 : Method := { name := "grow", desc := "()V", sig := { parameters := [], returnType := none }, accessFlags := 2, code := some k9c4 }
/-- com/example/hedgewalk/hedgewalk/input/ChildCounts -/
def k9 : Class := { plain "com/example/hedgewalk/hedgewalk/input/ChildCounts" (some 0) with
  accessFlags := 48
  interfaces := #[]
  cf := some (fileOf pool9 7 #[] #[{ accessFlags := 0, nameIndex := 5, descriptorIndex := 6, attributes := #[] }, { accessFlags := 0, nameIndex := 47, descriptorIndex := 48, attributes := #[] }, { accessFlags := 0, nameIndex := 50, descriptorIndex := 6, attributes := #[] }, { accessFlags := 2, nameIndex := 25, descriptorIndex := 26, attributes := #[] }, { accessFlags := 2, nameIndex := 33, descriptorIndex := 6, attributes := #[] }] 48 2 #[] #[{ accessFlags := 26, nameIndex := 42, descriptorIndex := 30, attributes := #[] }, { accessFlags := 2, nameIndex := 13, descriptorIndex := 14, attributes := #[] }, { accessFlags := 2, nameIndex := 17, descriptorIndex := 18, attributes := #[] }, { accessFlags := 2, nameIndex := 21, descriptorIndex := 22, attributes := #[] }, { accessFlags := 2, nameIndex := 29, descriptorIndex := 30, attributes := #[] }])
  fields := #[{ name := "INITIAL_SLOTS", type := .int, accessFlags := 26, slot := 0, constantValue := 0 }, { name := "names", type := (.array (.object "java/lang/String")), accessFlags := 2, slot := 0, constantValue := 0 }, { name := "counts", type := (.array .long), accessFlags := 2, slot := 1, constantValue := 0 }, { name := "used", type := (.array .int), accessFlags := 2, slot := 2, constantValue := 0 }, { name := "size", type := .int, accessFlags := 2, slot := 3, constantValue := 0 }]
  methods := #[k9m0, k9m1, k9m2, k9m3, k9m4]
  instanceTypes := #[(.array (.object "java/lang/String")), (.array .long), (.array .int), .int]
  staticTypes := #[.int]
  resolved := Array.replicate 56 none
  statics := none }

def pool10 : Array CpInfo := pool [(2, .class_ 4), (1, u "java/lang/Object"), (0, u "<init>"), (0, u "()V"), (17, .class_ 26), (1, u "jdk/internal/util/Preconditions"), (28, .class_ 56), (0, u "jdk/internal/util/Preconditions$4"), (57, .class_ 115), (0, u "jdk/internal/util/Preconditions$1"), (7, u "SIOOBE_FORMATTER"), (0, u "Ljava/util/function/BiFunction;"), (0, .class_ 126), (0, u "jdk/internal/util/Preconditions$2"), (3, u "AIOOBE_FORMATTER"), (0, .class_ 132), (0, u "jdk/internal/util/Preconditions$3"), (3, u "IOOBE_FORMATTER")] 57

def k10m0 : Method := { name := "<init>", desc := "()V", sig := { parameters := [], returnType := none }, accessFlags := 1, code := none }
/-- jdk/internal/util/Preconditions -/
def k10 : Class := { plain "jdk/internal/util/Preconditions" (some 0) with
  accessFlags := 33
  interfaces := #[]
  cf := some (fileOf pool10 24 #[.nestMembers #[55, 131, 125, 114]] #[{ accessFlags := 1, nameIndex := 5, descriptorIndex := 6, attributes := #[] }] 33 2 #[] #[{ accessFlags := 25, nameIndex := 123, descriptorIndex := 124, attributes := #[] }, { accessFlags := 25, nameIndex := 130, descriptorIndex := 124, attributes := #[] }, { accessFlags := 25, nameIndex := 136, descriptorIndex := 124, attributes := #[] }])
  fields := #[{ name := "SIOOBE_FORMATTER", type := (.object "java/util/function/BiFunction"), accessFlags := 25, slot := 0, constantValue := 0 }, { name := "AIOOBE_FORMATTER", type := (.object "java/util/function/BiFunction"), accessFlags := 25, slot := 1, constantValue := 0 }, { name := "IOOBE_FORMATTER", type := (.object "java/util/function/BiFunction"), accessFlags := 25, slot := 2, constantValue := 0 }]
  methods := #[k10m0]
  instanceTypes := #[]
  staticTypes := #[(.object "java/util/function/BiFunction"), (.object "java/util/function/BiFunction"), (.object "java/util/function/BiFunction")]
  resolved := Array.replicate 194 none
  statics := some 1 }

def pool11 : Array CpInfo := pool [(9, u "<init>"), (6, .class_ 18), (1, u "java/lang/Object"), (0, u "()V"), (1, .class_ 23), (1, u "jdk/internal/util/ArraysSupport"), (0, u "LOG2_ARRAY_LONG_INDEX_SCALE"), (0, u "I"), (2, u "U"), (0, u "Ljdk/internal/misc/Unsafe;"), (8, u "BIG_ENDIAN"), (0, u "Z"), (8, u "LOG2_BYTE_BIT_SIZE"), (4, u "LOG2_ARRAY_INT_INDEX_SCALE"), (54, u "JLA"), (0, u "Ljdk/internal/access/JavaLangAccess;"), (11, u "LOG2_ARRAY_BOOLEAN_INDEX_SCALE"), (9, u "LOG2_ARRAY_BYTE_INDEX_SCALE"), (5, u "LOG2_ARRAY_CHAR_INDEX_SCALE"), (5, u "LOG2_ARRAY_SHORT_INDEX_SCALE"), (18, u "LOG2_ARRAY_FLOAT_INDEX_SCALE"), (24, u "LOG2_ARRAY_DOUBLE_INDEX_SCALE"), (89, u "T_BOOLEAN"), (2, u "T_CHAR"), (1, u "T_FLOAT"), (1, u "T_DOUBLE"), (1, u "T_BYTE"), (1, u "T_SHORT"), (1, u "T_INT"), (1, u "T_LONG"), (1, u "SOFT_MAX_ARRAY_LENGTH")] 83

def k11m0 : Method := { name := "<init>", desc := "()V", sig := { parameters := [], returnType := none }, accessFlags := 2, code := none }
/-- jdk/internal/util/ArraysSupport -/
def k11 : Class := { plain "jdk/internal/util/ArraysSupport" (some 0) with
  accessFlags := 33
  interfaces := #[]
  cf := some (fileOf pool11 21 #[] #[{ accessFlags := 2, nameIndex := 9, descriptorIndex := 19, attributes := #[] }] 33 16 #[] #[{ accessFlags := 24, nameIndex := 28, descriptorIndex := 29, attributes := #[] }, { accessFlags := 26, nameIndex := 38, descriptorIndex := 39, attributes := #[] }, { accessFlags := 25, nameIndex := 121, descriptorIndex := 25, attributes := #[] }, { accessFlags := 25, nameIndex := 131, descriptorIndex := 25, attributes := #[] }, { accessFlags := 25, nameIndex := 137, descriptorIndex := 25, attributes := #[] }, { accessFlags := 25, nameIndex := 143, descriptorIndex := 25, attributes := #[] }, { accessFlags := 25, nameIndex := 53, descriptorIndex := 25, attributes := #[] }, { accessFlags := 25, nameIndex := 24, descriptorIndex := 25, attributes := #[] }, { accessFlags := 25, nameIndex := 162, descriptorIndex := 25, attributes := #[] }, { accessFlags := 25, nameIndex := 187, descriptorIndex := 25, attributes := #[] }, { accessFlags := 26, nameIndex := 48, descriptorIndex := 25, attributes := #[] }, { accessFlags := 25, nameIndex := 277, descriptorIndex := 25, attributes := #[] }, { accessFlags := 25, nameIndex := 280, descriptorIndex := 25, attributes := #[] }, { accessFlags := 25, nameIndex := 282, descriptorIndex := 25, attributes := #[] }, { accessFlags := 25, nameIndex := 284, descriptorIndex := 25, attributes := #[] }, { accessFlags := 25, nameIndex := 286, descriptorIndex := 25, attributes := #[] }, { accessFlags := 25, nameIndex := 288, descriptorIndex := 25, attributes := #[] }, { accessFlags := 25, nameIndex := 290, descriptorIndex := 25, attributes := #[] }, { accessFlags := 25, nameIndex := 292, descriptorIndex := 25, attributes := #[] }, { accessFlags := 26, nameIndex := 108, descriptorIndex := 109, attributes := #[] }, { accessFlags := 25, nameIndex := 294, descriptorIndex := 25, attributes := #[] }])
  fields := #[{ name := "U", type := (.object "jdk/internal/misc/Unsafe"), accessFlags := 24, slot := 0, constantValue := 0 }, { name := "BIG_ENDIAN", type := .boolean, accessFlags := 26, slot := 1, constantValue := 0 }, { name := "LOG2_ARRAY_BOOLEAN_INDEX_SCALE", type := .int, accessFlags := 25, slot := 2, constantValue := 0 }, { name := "LOG2_ARRAY_BYTE_INDEX_SCALE", type := .int, accessFlags := 25, slot := 3, constantValue := 0 }, { name := "LOG2_ARRAY_CHAR_INDEX_SCALE", type := .int, accessFlags := 25, slot := 4, constantValue := 0 }, { name := "LOG2_ARRAY_SHORT_INDEX_SCALE", type := .int, accessFlags := 25, slot := 5, constantValue := 0 }, { name := "LOG2_ARRAY_INT_INDEX_SCALE", type := .int, accessFlags := 25, slot := 6, constantValue := 0 }, { name := "LOG2_ARRAY_LONG_INDEX_SCALE", type := .int, accessFlags := 25, slot := 7, constantValue := 0 }, { name := "LOG2_ARRAY_FLOAT_INDEX_SCALE", type := .int, accessFlags := 25, slot := 8, constantValue := 0 }, { name := "LOG2_ARRAY_DOUBLE_INDEX_SCALE", type := .int, accessFlags := 25, slot := 9, constantValue := 0 }, { name := "LOG2_BYTE_BIT_SIZE", type := .int, accessFlags := 26, slot := 10, constantValue := 0 }, { name := "T_BOOLEAN", type := .int, accessFlags := 25, slot := 11, constantValue := 0 }, { name := "T_CHAR", type := .int, accessFlags := 25, slot := 12, constantValue := 0 }, { name := "T_FLOAT", type := .int, accessFlags := 25, slot := 13, constantValue := 0 }, { name := "T_DOUBLE", type := .int, accessFlags := 25, slot := 14, constantValue := 0 }, { name := "T_BYTE", type := .int, accessFlags := 25, slot := 15, constantValue := 0 }, { name := "T_SHORT", type := .int, accessFlags := 25, slot := 16, constantValue := 0 }, { name := "T_INT", type := .int, accessFlags := 25, slot := 17, constantValue := 0 }, { name := "T_LONG", type := .int, accessFlags := 25, slot := 18, constantValue := 0 }, { name := "JLA", type := (.object "jdk/internal/access/JavaLangAccess"), accessFlags := 26, slot := 19, constantValue := 0 }, { name := "SOFT_MAX_ARRAY_LENGTH", type := .int, accessFlags := 25, slot := 20, constantValue := 0 }]
  methods := #[k11m0]
  instanceTypes := #[]
  staticTypes := #[(.object "jdk/internal/misc/Unsafe"), .boolean, .int, .int, .int, .int, .int, .int, .int, .int, .int, .int, .int, .int, .int, .int, .int, .int, .int, (.object "jdk/internal/access/JavaLangAccess"), .int]
  resolved := Array.replicate 378 none
  statics := none }

def pool12 : Array CpInfo := pool [(1, u "java/lang/Cloneable"), (0, .class_ 1), (0, u "java/lang/Object"), (0, .class_ 3)] 3

/-- java/lang/Cloneable -/
def k12 : Class := { plain "java/lang/Cloneable" (some 0) with
  accessFlags := 1537
  interfaces := #[]
  cf := some (fileOf pool12 2 #[] #[] 1537 4 #[] #[])
  fields := #[]
  methods := #[]
  instanceTypes := #[]
  staticTypes := #[]
  resolved := Array.replicate 8 none
  statics := none }

/-- the primitive byte -/
def k13 : Class := { plain "byte" none with kind := .primitive 'B', accessFlags := 0x411 }
/-- [B -/
def k14 : Class := { plain "[B" (some 0) with kind := .array 13 .byte, interfaces := #[12, 2], accessFlags := 1041 }

/-- the primitive int -/
def k15 : Class := { plain "int" none with kind := .primitive 'I', accessFlags := 0x411 }
/-- [I -/
def k16 : Class := { plain "[I" (some 0) with kind := .array 15 .int, interfaces := #[12, 2], accessFlags := 1041 }

/-- the primitive long -/
def k17 : Class := { plain "long" none with kind := .primitive 'J', accessFlags := 0x411 }
/-- [J -/
def k18 : Class := { plain "[J" (some 0) with kind := .array 17 .long, interfaces := #[12, 2], accessFlags := 1041 }

/-- [Ljava/lang/String; -/
def k19 : Class := { plain "[Ljava/lang/String;" (some 0) with kind := .array 7 (.object "java/lang/String"), interfaces := #[12, 2], accessFlags := 1041 }

def heap : Heap := #[{ cls := 7, slots := #[.long 0, .int 1, .null, .int 0, .null, .int 0, .int 0], vm := .statics 7 },
  { cls := 10, slots := #[.null, .null, .null], vm := .statics 10 }]
def classes : Array Class := #[k0, k1, k2, k3, k4, k5, k6, k7, k8, k9, k10, k11, k12, k13, k14, k15, k16, k17, k18, k19]
def interned : List (Array UInt16 × Addr) := []
def slotsUsed : Nat := 10
def theMethod : MethodId := ⟨1, 3⟩
def args0 : Array Value := #[.int 1, .int 2, .int 3, .int 4]
def aboutOver (below : List Frame) : State where
  vm := { classes := classes, interned := interned.toArray }
  heap := heap
  slotsUsed := slotsUsed
  threads := #[{ frames := .invoking theMethod args0 :: below }]
def below0 : List Frame := [.native { method := ⟨0, 0⟩, args := #[] }]
def about1 : State := aboutOver below0
def p0 : Program := .bare "" "" ""
def e0 : Env := launch0.env 0 0 0
theorem w_frames : about1.frames = Frame.invoking theMethod args0 :: below0 := rfl
set_option maxRecDepth 65536 in
theorem w_args : argsFit about1.vm theMethod args0 = true := by decide +kernel
set_option maxRecDepth 65536 in
theorem w_heap : heapFits about1 = true := by decide +kernel
set_option maxRecDepth 65536 in
theorem w_runnable : about1.curStatus? = some .runnable := by decide +kernel
set_option maxRecDepth 65536 in
theorem w_alone : about1.alone = true := by decide +kernel
set_option maxRecDepth 65536 in
theorem w_named : about1.methodNamed? x = some theMethod := by decide +kernel
set_option maxRecDepth 65536 in
theorem w_hears : about1.hears theMethod below0 = true := by decide +kernel
set_option maxRecDepth 65536 in
theorem w_ripe : about1.ripe theMethod args0 below0 = true := by decide +kernel
theorem w_running : about1.status = .running := rfl
set_option maxRecDepth 65536 in
theorem w_room : about1.hasRoom e0.platform room_1 = true :=
  launch0.hasRoom_least _ room_1 (by decide +kernel) (by decide +kernel) (by decide +kernel) (by decide +kernel) (by decide +kernel) (by decide +kernel)
theorem allAtoms_all (ts : List Jvm.Cond) (a : Array Jvm.Value) (st : Jvm.State) : (allAtoms ts).before a st = ts.all (fun c => c.before a st) := by
  induction ts with
  | nil => rfl
  | cons c t ih =>
    show (Jvm.Cond.and c (allAtoms t)).before a st = _
    rw [Jvm.Cond.before_and, ih, List.all_cons]
def words1 : List Jvm.Cond := Jvm.Cond.code x code maxLocals ret :: tables_1
/-- a 'code' word, met by the world's own term for the bytes: nothing is compared byte by byte -/
theorem code_word {y : MethodName} {bytes : ByteArray} {mx : Nat} {rt : Option FieldType} {a : Array Value} {s : State} {m : MethodId} {meth : Method} {c : Code} (h1 : s.methodNamed? y = some m) (h2 : s.vm.method? m = some meth) (h3 : meth.code = some c) (h4 : c.code = bytes)
    (h5 : (c.maxLocals == mx && c.exceptionTable.isEmpty && decide (c.maxStack ≤ mostOperands) && decide (meth.sig.returnType = rt) && !meth.locks && decide (parseMethodDescriptor y.desc = some meth.sig)) = true) : (Jvm.Cond.code y bytes mx rt).before a s = true := by
  simp only [Bool.and_eq_true, beq_iff_eq, Bool.not_eq_true', decide_eq_true_eq] at h5
  obtain ⟨⟨⟨⟨⟨g1, g2⟩, g3⟩, g4⟩, g5⟩, g6⟩ := h5
  simp [Cond.before, Cond.holds, Cond.value, h1, h2, h3, h4, g1, g2, g3, g4, g5, g6]
def isCode : Jvm.Cond → Bool
  | .code _ _ _ _ => true
  | _ => false
theorem all_split {L : List Jvm.Cond} {P : Jvm.Cond → Bool} (h1 : L.all (fun c => isCode c || P c) = true) (h2 : ∀ c ∈ L.filter isCode, P c = true) : L.all P = true := by
  refine List.all_eq_true.mpr fun c hc => ?_
  have h := List.all_eq_true.mp h1 c hc
  rcases Bool.eq_false_or_eq_true (isCode c) with hi | hi
  · exact h2 c (List.mem_filter.mpr ⟨hc, hi⟩)
  · simpa [hi] using h
set_option maxRecDepth 65536 in
theorem w_c0 : (Jvm.Cond.code x code maxLocals ret).before args0 about1 = true := code_word (m := ⟨1, 3⟩) (meth := k1m3) (c := k1c3) (by decide +kernel) rfl rfl rfl (by decide +kernel)
set_option maxRecDepth 65536 in
theorem w_c1 : (Jvm.Cond.code ({ cls := "com/example/hedgewalk/hedgewalk/input/ChildCountsClearPinLaw", name := "name", desc := "(I)Ljava/lang/String;" } : Jvm.MethodName) method_2_code (1 : Nat) (Option.some (Jvm.ClassFile.FieldType.object "java/lang/String"))).before args0 about1 = true := code_word (m := ⟨1, 1⟩) (meth := k1m1) (c := k1c1) (by decide +kernel) rfl rfl rfl (by decide +kernel)
set_option maxRecDepth 65536 in
theorem w_c2 : (Jvm.Cond.code ({ cls := "java/lang/String", name := "valueOf", desc := "(C)Ljava/lang/String;" } : Jvm.MethodName) jdk_42_method_139_code (1 : Nat) (Option.some (Jvm.ClassFile.FieldType.object "java/lang/String"))).before args0 about1 = true := code_word (m := ⟨7, 3⟩) (meth := k7m3) (c := k7c3) (by decide +kernel) rfl rfl rfl (by decide +kernel)
set_option maxRecDepth 65536 in
theorem w_c3 : (Jvm.Cond.code ({ cls := "java/lang/StringLatin1", name := "canEncode", desc := "(C)Z" } : Jvm.MethodName) jdk_43_method_3_code (1 : Nat) (Option.some Jvm.ClassFile.FieldType.boolean)).before args0 about1 = true := code_word (m := ⟨8, 1⟩) (meth := k8m1) (c := k8c1) (by decide +kernel) rfl rfl rfl (by decide +kernel)
set_option maxRecDepth 65536 in
theorem w_c4 : (Jvm.Cond.code ({ cls := "java/lang/StringLatin1", name := "toBytes", desc := "(C)[B" } : Jvm.MethodName) jdk_43_method_46_code (1 : Nat) (Option.some (Jvm.ClassFile.FieldType.array Jvm.ClassFile.FieldType.byte))).before args0 about1 = true := code_word (m := ⟨8, 4⟩) (meth := k8m4) (c := k8c4) (by decide +kernel) rfl rfl rfl (by decide +kernel)
set_option maxRecDepth 65536 in
theorem w_c5 : (Jvm.Cond.code ({ cls := "java/lang/String", name := "<init>", desc := "([BB)V" } : Jvm.MethodName) jdk_42_method_151_code (3 : Nat) (Option.none : Option Jvm.ClassFile.FieldType)).before args0 about1 = true := code_word (m := ⟨7, 4⟩) (meth := k7m4) (c := k7c4) (by decide +kernel) rfl rfl rfl (by decide +kernel)
set_option maxRecDepth 65536 in
theorem w_c6 : (Jvm.Cond.code ({ cls := "java/lang/Object", name := "<init>", desc := "()V" } : Jvm.MethodName) object_method_1_code (1 : Nat) (Option.none : Option Jvm.ClassFile.FieldType)).before args0 about1 = true := code_word (m := ⟨0, 0⟩) (meth := k0m0) (c := k0c0) (by decide +kernel) rfl rfl rfl (by decide +kernel)
set_option maxRecDepth 65536 in
theorem w_c7 : (Jvm.Cond.code ({ cls := "com/example/hedgewalk/hedgewalk/input/ChildCounts", name := "<init>", desc := "()V" } : Jvm.MethodName) prog_87_method_1_code (1 : Nat) (Option.none : Option Jvm.ClassFile.FieldType)).before args0 about1 = true := code_word (m := ⟨9, 0⟩) (meth := k9m0) (c := k9c0) (by decide +kernel) rfl rfl rfl (by decide +kernel)
set_option maxRecDepth 65536 in
theorem w_c8 : (Jvm.Cond.code ({ cls := "com/example/hedgewalk/hedgewalk/input/ChildCounts", name := "increment", desc := "(Ljava/lang/String;)J" } : Jvm.MethodName) prog_87_method_2_code (3 : Nat) (Option.some Jvm.ClassFile.FieldType.long)).before args0 about1 = true := code_word (m := ⟨9, 1⟩) (meth := k9m1) (c := k9c1) (by decide +kernel) rfl rfl rfl (by decide +kernel)
set_option maxRecDepth 65536 in
theorem w_c9 : (Jvm.Cond.code ({ cls := "com/example/hedgewalk/hedgewalk/input/ChildCounts", name := "slotOf", desc := "(Ljava/lang/String;)I" } : Jvm.MethodName) prog_87_method_4_code (5 : Nat) (Option.some Jvm.ClassFile.FieldType.int)).before args0 about1 = true := code_word (m := ⟨9, 3⟩) (meth := k9m3) (c := k9c3) (by decide +kernel) rfl rfl rfl (by decide +kernel)
set_option maxRecDepth 65536 in
theorem w_c10 : (Jvm.Cond.code ({ cls := "java/lang/String", name := "hashCode", desc := "()I" } : Jvm.MethodName) jdk_42_method_78_code (2 : Nat) (Option.some Jvm.ClassFile.FieldType.int)).before args0 about1 = true := code_word (m := ⟨7, 2⟩) (meth := k7m2) (c := k7c2) (by decide +kernel) rfl rfl rfl (by decide +kernel)
set_option maxRecDepth 65536 in
theorem w_c11 : (Jvm.Cond.code ({ cls := "java/lang/String", name := "isLatin1", desc := "()Z" } : Jvm.MethodName) jdk_42_method_154_code (1 : Nat) (Option.some Jvm.ClassFile.FieldType.boolean)).before args0 about1 = true := code_word (m := ⟨7, 5⟩) (meth := k7m5) (c := k7c5) (by decide +kernel) rfl rfl rfl (by decide +kernel)
set_option maxRecDepth 65536 in
theorem w_c12 : (Jvm.Cond.code ({ cls := "java/lang/StringLatin1", name := "hashCode", desc := "([B)I" } : Jvm.MethodName) jdk_43_method_21_code (1 : Nat) (Option.some Jvm.ClassFile.FieldType.int)).before args0 about1 = true := code_word (m := ⟨8, 3⟩) (meth := k8m3) (c := k8c3) (by decide +kernel) rfl rfl rfl (by decide +kernel)
set_option maxRecDepth 65536 in
theorem w_c13 : (Jvm.Cond.code ({ cls := "java/lang/String", name := "equals", desc := "(Ljava/lang/Object;)Z" } : Jvm.MethodName) jdk_42_method_66_code (3 : Nat) (Option.some Jvm.ClassFile.FieldType.boolean)).before args0 about1 = true := code_word (m := ⟨7, 1⟩) (meth := k7m1) (c := k7c1) (by decide +kernel) rfl rfl rfl (by decide +kernel)
set_option maxRecDepth 65536 in
theorem w_c14 : (Jvm.Cond.code ({ cls := "java/lang/StringLatin1", name := "equals", desc := "([B[B)Z" } : Jvm.MethodName) jdk_43_method_13_code (3 : Nat) (Option.some Jvm.ClassFile.FieldType.boolean)).before args0 about1 = true := code_word (m := ⟨8, 2⟩) (meth := k8m2) (c := k8c2) (by decide +kernel) rfl rfl rfl (by decide +kernel)
set_option maxRecDepth 65536 in
theorem w_c15 : (Jvm.Cond.code ({ cls := "com/example/hedgewalk/hedgewalk/input/ChildCounts", name := "clear", desc := "()V" } : Jvm.MethodName) prog_87_method_3_code (2 : Nat) (Option.none : Option Jvm.ClassFile.FieldType)).before args0 about1 = true := code_word (m := ⟨9, 2⟩) (meth := k9m2) (c := k9c2) (by decide +kernel) rfl rfl rfl (by decide +kernel)
set_option maxRecDepth 65536 in
theorem w_c16 : (Jvm.Cond.code ({ cls := "com/example/hedgewalk/hedgewalk/input/ChildCountsClearPinLaw", name := "eq", desc := "(Ljava/lang/String;Ljava/lang/String;)J" } : Jvm.MethodName) method_3_code (2 : Nat) (Option.some Jvm.ClassFile.FieldType.long)).before args0 about1 = true := code_word (m := ⟨1, 2⟩) (meth := k1m2) (c := k1c2) (by decide +kernel) rfl rfl rfl (by decide +kernel)
set_option maxRecDepth 65536 in
theorem w_c17 : (Jvm.Cond.code ({ cls := "com/example/hedgewalk/hedgewalk/input/ChildCounts", name := "grow", desc := "()V" } : Jvm.MethodName) prog_87_method_5_code (6 : Nat) (Option.none : Option Jvm.ClassFile.FieldType)).before args0 about1 = true := code_word (m := ⟨9, 4⟩) (meth := k9m4) (c := k9c4) (by decide +kernel) rfl rfl rfl (by decide +kernel)
def codes1 : List Jvm.Cond := [Jvm.Cond.code x code maxLocals ret, Jvm.Cond.code ({ cls := "com/example/hedgewalk/hedgewalk/input/ChildCountsClearPinLaw", name := "name", desc := "(I)Ljava/lang/String;" } : Jvm.MethodName) method_2_code (1 : Nat) (Option.some (Jvm.ClassFile.FieldType.object "java/lang/String")), Jvm.Cond.code ({ cls := "java/lang/String", name := "valueOf", desc := "(C)Ljava/lang/String;" } : Jvm.MethodName) jdk_42_method_139_code (1 : Nat) (Option.some (Jvm.ClassFile.FieldType.object "java/lang/String")), Jvm.Cond.code ({ cls := "java/lang/StringLatin1", name := "canEncode", desc := "(C)Z" } : Jvm.MethodName) jdk_43_method_3_code (1 : Nat) (Option.some Jvm.ClassFile.FieldType.boolean), Jvm.Cond.code ({ cls := "java/lang/StringLatin1", name := "toBytes", desc := "(C)[B" } : Jvm.MethodName) jdk_43_method_46_code (1 : Nat) (Option.some (Jvm.ClassFile.FieldType.array Jvm.ClassFile.FieldType.byte)), Jvm.Cond.code ({ cls := "java/lang/String", name := "<init>", desc := "([BB)V" } : Jvm.MethodName) jdk_42_method_151_code (3 : Nat) (Option.none : Option Jvm.ClassFile.FieldType), Jvm.Cond.code ({ cls := "java/lang/Object", name := "<init>", desc := "()V" } : Jvm.MethodName) object_method_1_code (1 : Nat) (Option.none : Option Jvm.ClassFile.FieldType), Jvm.Cond.code ({ cls := "com/example/hedgewalk/hedgewalk/input/ChildCounts", name := "<init>", desc := "()V" } : Jvm.MethodName) prog_87_method_1_code (1 : Nat) (Option.none : Option Jvm.ClassFile.FieldType), Jvm.Cond.code ({ cls := "com/example/hedgewalk/hedgewalk/input/ChildCounts", name := "increment", desc := "(Ljava/lang/String;)J" } : Jvm.MethodName) prog_87_method_2_code (3 : Nat) (Option.some Jvm.ClassFile.FieldType.long), Jvm.Cond.code ({ cls := "com/example/hedgewalk/hedgewalk/input/ChildCounts", name := "slotOf", desc := "(Ljava/lang/String;)I" } : Jvm.MethodName) prog_87_method_4_code (5 : Nat) (Option.some Jvm.ClassFile.FieldType.int), Jvm.Cond.code ({ cls := "java/lang/String", name := "hashCode", desc := "()I" } : Jvm.MethodName) jdk_42_method_78_code (2 : Nat) (Option.some Jvm.ClassFile.FieldType.int), Jvm.Cond.code ({ cls := "java/lang/String", name := "isLatin1", desc := "()Z" } : Jvm.MethodName) jdk_42_method_154_code (1 : Nat) (Option.some Jvm.ClassFile.FieldType.boolean), Jvm.Cond.code ({ cls := "java/lang/StringLatin1", name := "hashCode", desc := "([B)I" } : Jvm.MethodName) jdk_43_method_21_code (1 : Nat) (Option.some Jvm.ClassFile.FieldType.int), Jvm.Cond.code ({ cls := "java/lang/String", name := "equals", desc := "(Ljava/lang/Object;)Z" } : Jvm.MethodName) jdk_42_method_66_code (3 : Nat) (Option.some Jvm.ClassFile.FieldType.boolean), Jvm.Cond.code ({ cls := "java/lang/StringLatin1", name := "equals", desc := "([B[B)Z" } : Jvm.MethodName) jdk_43_method_13_code (3 : Nat) (Option.some Jvm.ClassFile.FieldType.boolean), Jvm.Cond.code ({ cls := "com/example/hedgewalk/hedgewalk/input/ChildCounts", name := "clear", desc := "()V" } : Jvm.MethodName) prog_87_method_3_code (2 : Nat) (Option.none : Option Jvm.ClassFile.FieldType), Jvm.Cond.code ({ cls := "com/example/hedgewalk/hedgewalk/input/ChildCountsClearPinLaw", name := "eq", desc := "(Ljava/lang/String;Ljava/lang/String;)J" } : Jvm.MethodName) method_3_code (2 : Nat) (Option.some Jvm.ClassFile.FieldType.long), Jvm.Cond.code ({ cls := "com/example/hedgewalk/hedgewalk/input/ChildCounts", name := "grow", desc := "()V" } : Jvm.MethodName) prog_87_method_5_code (6 : Nat) (Option.none : Option Jvm.ClassFile.FieldType)]
set_option maxRecDepth 65536 in
theorem codes_eq : words1.filter isCode = codes1 := rfl
theorem w_codes : ∀ c ∈ words1.filter isCode, c.before args0 about1 = true := by
  rw [codes_eq]
  intro c hc
  simp only [codes1, List.mem_cons, List.not_mem_nil, or_false] at hc
  rcases hc with rfl | rfl | rfl | rfl | rfl | rfl | rfl | rfl | rfl | rfl | rfl | rfl | rfl | rfl | rfl | rfl | rfl | rfl
  · exact w_c0
  · exact w_c1
  · exact w_c2
  · exact w_c3
  · exact w_c4
  · exact w_c5
  · exact w_c6
  · exact w_c7
  · exact w_c8
  · exact w_c9
  · exact w_c10
  · exact w_c11
  · exact w_c12
  · exact w_c13
  · exact w_c14
  · exact w_c15
  · exact w_c16
  · exact w_c17
set_option maxRecDepth 65536 in
theorem w_t1 : (words1.take 24).all (fun c => isCode c || c.before args0 about1) = true := by decide +kernel
set_option maxRecDepth 65536 in
theorem w_t2 : ((words1.drop 24).take 24).all (fun c => isCode c || c.before args0 about1) = true := by decide +kernel
set_option maxRecDepth 65536 in
theorem w_t3 : (((words1.drop 24).drop 24).take 24).all (fun c => isCode c || c.before args0 about1) = true := by decide +kernel
set_option maxRecDepth 65536 in
theorem w_t4 : ((((words1.drop 24).drop 24).drop 24).take 24).all (fun c => isCode c || c.before args0 about1) = true := by decide +kernel
set_option maxRecDepth 65536 in
theorem w_t5 : ((((words1.drop 24).drop 24).drop 24).drop 24).all (fun c => isCode c || c.before args0 about1) = true := by decide +kernel
theorem w_tables : (allAtoms (Jvm.Cond.code x code maxLocals ret :: tables_1)).before args0 about1 = true := by
  rw [allAtoms_all]
  show words1.all (fun c => c.before args0 about1) = true
  refine all_split ?_ w_codes
  rw [← List.take_append_drop 24 words1, List.all_append, w_t1, ← List.take_append_drop 24 (words1.drop 24), List.all_append, w_t2, ← List.take_append_drop 24 ((words1.drop 24).drop 24), List.all_append, w_t3, ← List.take_append_drop 24 (((words1.drop 24).drop 24).drop 24), List.all_append, w_t4, w_t5]
  rfl
set_option maxRecDepth 65536 in
theorem w_rest : rest_1_c.before args0 about1 = true := by decide +kernel
set_option maxRecDepth 65536 in
theorem w_case : (Jvm.Cond.and given_1 narrow_1).before args0 about1 = true := by decide +kernel
theorem w_applies : (headSpec (Jvm.Cond.code x code maxLocals ret :: tables_1) room_1).applies x e0.platform about1 = true :=
  (Spec.applies_iff w_frames).mpr ⟨w_running, w_runnable, w_alone, w_named, w_hears, w_ripe, w_room, w_tables⟩
theorem atStart : AtStart classFile x code maxLocals ret World_1 tables_1 room_1 Calls_1 rest_1 Pre_1 launch0 p0 e0 about1 theMethod args0 below0 :=
  ⟨lists_1, trivial, launch0.admits_env _ _ _, launch0.least_env, fairChoices_fair.cas, fairChoices_fair.clock, w_frames, w_args, w_heap, w_applies, trivial, w_rest, w_case⟩
end start1
theorem witness_1 : WitnessClaimed_1 := ⟨start1.p0, start1.e0, start1.about1, start1.theMethod, start1.args0, start1.below0, start1.atStart⟩
end Jvm.Pilot.@@N@@
