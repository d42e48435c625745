import JvmDerived
import JvmDerived.Pilot.@@N@@Statement
import JvmDerived.Pilot.@@N@@Code
set_option linter.unusedVariables false
set_option linter.unusedSimpArgs false
@@BLOCK:NumsL.lean.txt@@
namespace Jvm.Pilot.@@N@@
open Jvm Jvm.ClassFile Sem Op Lib Jvm.Free Jvm.Stand Jvm.LawKit Jvm.RoadKit Bundle Jvm.Pilot.@@N@@.Jvm.D
theorem own_w {Z : State} {a0 : Array Value} (hw : ∀ d ∈ tables_1, d.before a0 Z = true) (i : Nat) {d : Jvm.Cond} (h : tables_1[i]? = some d) : d.before a0 Z = true := hw _ (List.mem_of_getElem? h)
section OwnKit
variable {p : Program} {l : Launch} {e : Env} {R : Room} {s : State} {m : MethodId} {args : Array Value} {below : List Frame} {meth : Method} {c : Code} {T T' : State} {locs : List Loc} {cells slots : Nat} {Q : Option Value → Heap → List Loc → Prop} {k n : Nat} {Fin : Outcome → State → Prop} {Z : State} {a0 : Array Value} {h : Heap} {pc : Nat} {Ls : Array Slot} {rest : List Value}
/-- from this frame on the body ends as Fin says -/
def own_Go (p : Program) (e : Env) (below : List Frame) (Fin : Outcome → State → Prop) (T : State) (f : JFrame) : Prop :=
  ∃ s₂ o, Steps p.tables e below (T.setTop f) s₂ ∧ s₂.status = .running ∧ Ended s₂ below o ∧ Fin o s₂
/-- it returned, as Q says; the frame as ever -/
def own_Fin (s : State) (Q : Option Value → Heap → List Loc → Prop) (k n : Nat) (o : Outcome) (t : State) : Prop := ∃ v L, o = .returned v ∧ Q v t.heap L ∧ FrameEnd s o t L k n
/-- it returned, as Q says; String constants may have been resolved -/
def own_FinW (s : State) (Q : Option Value → Heap → List Loc → Prop) (k n : Nat) (o : Outcome) (t : State) : Prop := ∃ v L, o = .returned v ∧ Q v t.heap L ∧ ReturnedEndW s o t L k n
theorem own_by {f f' : JFrame} (st : ∀ t, Steps p.tables e below (T'.setTop f') t → Steps p.tables e below (T.setTop f) t) (g : own_Go p e below Fin T' f') : own_Go p e below Fin T f := by
  obtain ⟨s₂, o, h, r⟩ := g
  exact ⟨s₂, o, st _ h, r⟩
theorem own_start {f f' : JFrame} (q : f = f') (g : own_Go p e below (own_Fin s Q k n) T f') : ∃ s₂ o, Steps p.tables e below (T.setTop f) s₂ ∧ s₂.status = .running ∧ Ended s₂ below o ∧ ∃ v L, o = .returned v ∧ Q v s₂.heap L ∧ FrameEnd s o s₂ L k n := by
  subst q; exact g
theorem own_startW {f f' : JFrame} (q : f = f') (g : own_Go p e below (own_FinW s Q k n) T f') : ∃ s₂ o, Steps p.tables e below (T.setTop f) s₂ ∧ s₂.status = .running ∧ Ended s₂ below o ∧ ∃ v L, o = .returned v ∧ Q v s₂.heap L ∧ ReturnedEndW s o s₂ L k n := by
  subst q; exact g
theorem own_ret (X : Stand p l e R s m args below meth c T locs cells slots) (hx : p.tables.exec = Jvm.exec) (hlk : meth.locks = false) {w : Value} {t : FieldType} {i : Instr} (hret : meth.sig.returnType = some t)
    (hi : (i = .ireturn ∧ (t = .int ∨ t = .boolean ∨ t = .byte ∨ t = .char ∨ t = .short) ∧ ∃ z, w = .int z) ∨ (i = .lreturn ∧ t = .long ∧ ∃ z, w = .long z) ∨ (i = .dreturn ∧ t = .double ∧ ∃ z, w = .double z) ∨ (i = .freturn ∧ t = .float ∧ ∃ z, w = .float z) ∨ (i = .areturn ∧ t.isReference = true ∧ w.isRef = true))
    (hn : narrow t w = w) (hd : decode c.code pc = .ok (i, 1)) (eT : T.heap = h) (hk : cells ≤ k) (hs : slots ≤ n) (q : Q (some w) h locs) : own_Go p e below (own_Fin s Q k n) T (mkF m pc Ls (w :: rest)) := by
  obtain ⟨fs, hr, hrun, hended, hW, hsame⟩ := X.leave (v := some w) (fun h => by rw [hret] at h; cases h) hlk
  refine ⟨_, _, retOut X hx hret hn hi hd hr, hrun, hended, _, _, rfl, ?_, ⟨_, rfl⟩, hW, hsame.mono hk hs⟩
  show Q _ T.heap _
  rw [eT]; exact q
theorem own_retI (X : Stand p l e R s m args below meth c T locs cells slots) (hx : p.tables.exec = Jvm.exec) (hlk : meth.locks = false) {z : Int32} (hret : meth.sig.returnType = some .int) (hd : decode c.code pc = .ok (.ireturn, 1)) (eT : T.heap = h) (hk : cells ≤ k) (hs : slots ≤ n) (q : Q (some (.int z)) h locs) : own_Go p e below (own_Fin s Q k n) T (mkF m pc Ls (.int z :: rest)) :=
  own_ret X hx hlk hret (Or.inl ⟨rfl, Or.inl rfl, z, rfl⟩) rfl hd eT hk hs q
theorem own_retZ (X : Stand p l e R s m args below meth c T locs cells slots) (hx : p.tables.exec = Jvm.exec) (hlk : meth.locks = false) {z : Int32} (hret : meth.sig.returnType = some .boolean) (hz : z = 0 ∨ z = 1) (hd : decode c.code pc = .ok (.ireturn, 1)) (eT : T.heap = h) (hk : cells ≤ k) (hs : slots ≤ n) (q : Q (some (.int z)) h locs) : own_Go p e below (own_Fin s Q k n) T (mkF m pc Ls (.int z :: rest)) :=
  own_ret X hx hlk hret (Or.inl ⟨rfl, Or.inr (Or.inl rfl), z, rfl⟩) (by rcases hz with rfl | rfl <;> rfl) hd eT hk hs q
theorem own_retJ (X : Stand p l e R s m args below meth c T locs cells slots) (hx : p.tables.exec = Jvm.exec) (hlk : meth.locks = false) {z : Int64} (hret : meth.sig.returnType = some .long) (hd : decode c.code pc = .ok (.lreturn, 1)) (eT : T.heap = h) (hk : cells ≤ k) (hs : slots ≤ n) (q : Q (some (.long z)) h locs) : own_Go p e below (own_Fin s Q k n) T (mkF m pc Ls (.long z :: rest)) :=
  own_ret X hx hlk hret (Or.inr (Or.inl ⟨rfl, rfl, z, rfl⟩)) rfl hd eT hk hs q
theorem own_retR (X : Stand p l e R s m args below meth c T locs cells slots) (hx : p.tables.exec = Jvm.exec) (hlk : meth.locks = false) {w : Value} {t : FieldType} (hret : meth.sig.returnType = some t) (ht : t.isReference = true) (hw : w.isRef = true) (hn : narrow t w = w) (hd : decode c.code pc = .ok (.areturn, 1)) (eT : T.heap = h) (hk : cells ≤ k) (hs : slots ≤ n) (q : Q (some w) h locs) : own_Go p e below (own_Fin s Q k n) T (mkF m pc Ls (w :: rest)) :=
  own_ret X hx hlk hret (Or.inr (Or.inr (Or.inr (Or.inr ⟨rfl, ht, hw⟩)))) hn hd eT hk hs q
theorem own_retV (X : Stand p l e R s m args below meth c T locs cells slots) (hx : p.tables.exec = Jvm.exec) (hlk : meth.locks = false) (hret : meth.sig.returnType = none) (hd : decode c.code pc = .ok (.return_, 1)) (eT : T.heap = h) (hk : cells ≤ k) (hs : slots ≤ n) (q : Q none h locs) : own_Go p e below (own_Fin s Q k n) T (mkF m pc Ls []) := by
  obtain ⟨fs, hr, hrun, hended, hW, hsame⟩ := X.leave (v := none) (fun _ => rfl) hlk
  refine ⟨_, _, X.returnOut hx hret hd hr, hrun, hended, _, _, rfl, ?_, ⟨_, rfl⟩, hW, hsame.mono hk hs⟩
  show Q _ T.heap _
  rw [eT]; exact q
/-- a conditional branch as a plain comparison -/
def own_cnd : ClassFile.Cond → Int32 → Int32 → Prop
  | .eq, x, y => x = y
  | .ne, x, y => ¬ x = y
  | .lt, x, y => x < y
  | .ge, x, y => ¬ x < y
  | .gt, x, y => y < x
  | .le, x, y => ¬ y < x
def own_neg : ClassFile.Cond → ClassFile.Cond
  | .eq => .ne
  | .ne => .eq
  | .lt => .ge
  | .ge => .lt
  | .gt => .le
  | .le => .gt
theorem own_holds (cd : ClassFile.Cond) (x y : Int32) : (if_icmp.holds cd x y = true ∧ own_cnd cd x y) ∨ (if_icmp.holds cd x y = false ∧ own_cnd (own_neg cd) x y) := by
  cases cd
  case eq => by_cases q : x = y; · exact Or.inl ⟨(teq q).1, q⟩
             · exact Or.inr ⟨(feq q).1, q⟩
  case ne => by_cases q : x = y; · exact Or.inr ⟨(teq q).2, q⟩
             · exact Or.inl ⟨(feq q).2, q⟩
  case lt => by_cases q : x < y; · exact Or.inl ⟨(tlt q).1, q⟩
             · exact Or.inr ⟨(flt q).1, q⟩
  case ge => by_cases q : x < y; · exact Or.inr ⟨(tlt q).2.1, q⟩
             · exact Or.inl ⟨(flt q).2.1, q⟩
  case gt => by_cases q : y < x; · exact Or.inl ⟨(tlt q).2.2.1, q⟩
             · exact Or.inr ⟨(flt q).2.2.1, q⟩
  case le => by_cases q : y < x; · exact Or.inr ⟨(tlt q).2.2.2, q⟩
             · exact Or.inl ⟨(flt q).2.2.2, q⟩
theorem own_icmp (X : Stand p l e R s m args below meth c T locs cells slots) (hx : p.tables.exec = Jvm.exec) {cd : ClassFile.Cond} {x y : Int32} {o : Int} (pc' : Nat) (hd : decode c.code pc = .ok (.if_icmp cd o, 3)) (ho : 0 ≤ (pc : Int) + o) (hp : ((pc : Int) + o).toNat = pc')
    (g1 : own_cnd cd x y → own_Go p e below Fin T (mkF m pc' Ls rest)) (g2 : own_cnd (own_neg cd) x y → own_Go p e below Fin T (mkF m (pc + 3) Ls rest)) : own_Go p e below Fin T (mkF m pc Ls (.int y :: .int x :: rest)) := by
  rcases own_holds cd x y with ⟨q, q'⟩ | ⟨q, q'⟩
  · exact own_by (fun t kk => XS.icmpYes X.here hx rfl (pc0 := pc) (pc' := pc') rfl hd rfl q ho hp kk) (g1 q')
  · exact own_by (fun t kk => XS.icmpNo X.here hx rfl hd rfl q kk) (g2 q')
theorem own_if (X : Stand p l e R s m args below meth c T locs cells slots) (hx : p.tables.exec = Jvm.exec) {cd : ClassFile.Cond} {x : Int32} {o : Int} (pc' : Nat) (hd : decode c.code pc = .ok (.ifCond cd o, 3)) (ho : 0 ≤ (pc : Int) + o) (hp : ((pc : Int) + o).toNat = pc')
    (g1 : own_cnd cd x 0 → own_Go p e below Fin T (mkF m pc' Ls rest)) (g2 : own_cnd (own_neg cd) x 0 → own_Go p e below Fin T (mkF m (pc + 3) Ls rest)) : own_Go p e below Fin T (mkF m pc Ls (.int x :: rest)) := by
  rcases own_holds cd x 0 with ⟨q, q'⟩ | ⟨q, q'⟩
  · exact own_by (fun t kk => XS.ifYes X.here hx rfl (pc0 := pc) (pc' := pc') rfl hd rfl ((if0 _ _).trans q) ho hp kk) (g1 q')
  · exact own_by (fun t kk => XS.ifNo X.here hx rfl hd rfl ((if0 _ _).trans q) kk) (g2 q')
/-- a static call by the callee's contract -/
theorem own_callS (X : Stand p l e R s m args below meth c T locs cells slots) (hx : p.tables.exec = Jvm.exec) (hZ : Z.Warmed39 s.vm) {own : String} {index : Nat} {y : MethodName} {bytes : ByteArray} {maxL W : Nat} {ret : Option FieldType} {rm : Room} {Qc : Option Value → Heap → List Loc → Prop}
    (hown : s.vm.findClass own = some m.cls) (w1 : (Cond.methodLink own index y).before a0 Z = true) (w2 : (Cond.static y).before a0 Z = true) (w3 : (Cond.initialized y.cls).before a0 Z = true) (w4 : (Cond.code y bytes maxL ret).before a0 Z = true)
    (hy : y.cls ≠ "java/lang/invoke/MethodHandle" ∧ y.cls ≠ "java/lang/invoke/VarHandle") (hml : Ls.size = c.maxLocals) {argsL : List Value} {ps : List FieldType} {rt : Option FieldType} (pd : parseMethodDescriptor y.desc = some ⟨ps, rt⟩) (hlen : argsL.length = ps.length)
    (hM : MetFree l y (head1 [Cond.code y bytes maxL ret] rm) (fun a U => a = argsL.toArray ∧ Z.Warmed39 U.vm ∧ U.heap = h) (fun _ _ _ _ _ => True) (fun _ U o U' => ∃ v L, o = .returned v ∧ Qc v U'.heap L ∧ FrameEnd U o U' L rm.cells rm.slots))
    (hf : rm.frames + 1 ≤ R.frames) (hl : W + (maxL + 11) + rm.locals ≤ R.locals) (hW : (rest.map fun v => v.category).sum ≤ W) (hc : cells + rm.cells ≤ R.cells) (hs : slots + rm.slots ≤ R.slots) (eT : T.heap = h) {st : List Value} (hst : st = argsL.reverse ++ rest) (hd : decode c.code pc = .ok (.invokestatic index, 3))
    (g : ∀ (v : Option Value) (T' : State) (L : List Loc), Stand p l e R s m args below meth c T' (locs ++ L) (cells + rm.cells) (slots + rm.slots) → Qc v T'.heap L → own_Go p e below Fin T' (mkF m (pc + 3) Ls (v.toList ++ rest))) :
    own_Go p e below Fin T (mkF m pc Ls st) := by
  subst hst
  obtain ⟨v, _, ⟨T2, L2, k2, n2⟩, -, X2, ⟨Lc2, hQ2, l2, y2, z2⟩, st2⟩ := Jvm.LawKit.callS X hx (y := y) hown (mvT hZ w1) (mvT hZ w2) (mvT hZ w3) (mvT hZ w4) hy (backOf (W := W) hM hZ w4 w3 hf hl) (g := (mkF m pc Ls (argsL.reverse ++ rest))) rfl hml (argsL := argsL) (rest := rest) (lenOf pd hlen) rfl (by show 2 * 0 + _ ≤ _; omega) hd (fun _ _ => ⟨rfl, eT, hc, hs⟩)
  dsimp only [Pt.U, Pt.locs, Pt.cells, Pt.slots] at X2 l2 y2 z2 st2 hQ2
  subst l2 y2 z2
  exact own_by (fun t kk => st2 _ kk) (g v T2 Lc2 X2 hQ2)
/-- a constructor by its contract -/
theorem own_callC (X : Stand p l e R s m args below meth c T locs cells slots) (hx : p.tables.exec = Jvm.exec) (hZ : Z.Warmed39 s.vm) {own : String} {index : Nat} {y : MethodName} {bytes : ByteArray} {maxL W : Nat} {rm : Room} {Qc : Option Value → Heap → List Loc → Prop} (hy1 : y.name = "<init>")
    (hown : s.vm.findClass own = some m.cls) (w1 : (Cond.methodLink own index y).before a0 Z = true) (w2 : (Cond.instanceMethod y).before a0 Z = true) (w3 : (Cond.initialized y.cls).before a0 Z = true) (w4 : (Cond.code y bytes maxL none).before a0 Z = true)
    (hy : y.cls ≠ "java/lang/invoke/MethodHandle" ∧ y.cls ≠ "java/lang/invoke/VarHandle") (hml : Ls.size = c.maxLocals) {a : Addr} {argsL : List Value} {ps : List FieldType} {rt : Option FieldType} (pd : parseMethodDescriptor y.desc = some ⟨ps, rt⟩) (hlen : argsL.length = ps.length)
    (hM : MetFree l y (head1 [Cond.code y bytes maxL none] rm) (fun b U => b = (.ref a :: argsL).toArray ∧ Z.Warmed39 U.vm ∧ U.heap = h) (fun _ _ _ _ _ => True) (fun _ U o U' => ∃ v L, o = .returned v ∧ Qc v U'.heap L ∧ FrameEnd U o U' L rm.cells rm.slots))
    (hf : rm.frames + 1 ≤ R.frames) (hl : W + (maxL + 11) + rm.locals ≤ R.locals) (hW : (rest.map fun v => v.category).sum ≤ W) (hc : cells + rm.cells ≤ R.cells) (hs : slots + rm.slots ≤ R.slots) (eT : T.heap = h) {st : List Value} (hst : st = argsL.reverse ++ .ref a :: rest) (hd : decode c.code pc = .ok (.invokespecial index, 3))
    (g : ∀ (v : Option Value) (T' : State) (L : List Loc), Stand p l e R s m args below meth c T' (locs ++ L) (cells + rm.cells) (slots + rm.slots) → Qc v T'.heap L → own_Go p e below Fin T' (mkF m (pc + 3) Ls (v.toList ++ rest))) :
    own_Go p e below Fin T (mkF m pc Ls st) := by
  subst hst
  obtain ⟨v, _, ⟨T2, L2, k2, n2⟩, -, X2, ⟨Lc2, hQ2, l2, y2, z2⟩, st2⟩ := X.specialBack hx (y := y) hy1 hown (mvT hZ w1) (mvT hZ w2) (mvT hZ w4) hy (backOf (W := W) hM hZ w4 w3 hf hl) (g := (mkF m pc Ls (argsL.reverse ++ .ref a :: rest))) rfl hml (Steps.refl _) (a := a) (argsL := argsL) (rest := rest) (lenOf pd hlen) rfl (by show 2 * 0 + _ ≤ _; omega) hd (fun _ _ => ⟨rfl, eT, hc, hs⟩)
  dsimp only [Pt.U, Pt.locs, Pt.cells, Pt.slots] at X2 l2 y2 z2 st2 hQ2
  subst l2 y2 z2
  exact own_by (fun t kk => st2.trans kk) (g v T2 Lc2 X2 hQ2)
/-- an instance method of the receiver's own class by its contract -/
theorem own_callV (X : Stand p l e R s m args below meth c T locs cells slots) (hx : p.tables.exec = Jvm.exec) (hZ : Z.Warmed39 s.vm) {own C : String} {index : Nat} {y z : MethodName} {bytes : ByteArray} {maxL W : Nat} {ret : Option FieldType} {rm : Room} {Qc : Option Value → Heap → List Loc → Prop}
    (hown : s.vm.findClass own = some m.cls) (w1 : (Cond.methodLink own index y).before a0 Z = true) (wd : (Cond.declares y).before a0 Z = true) (nf : NotFace s y) (ws : (Cond.selects C y z).before a0 Z = true) (w2 : (Cond.instanceMethod z).before a0 Z = true) (w3 : (Cond.initialized z.cls).before a0 Z = true) (w4 : (Cond.code z bytes maxL ret).before a0 Z = true)
    (hy : y.cls ≠ "java/lang/invoke/MethodHandle" ∧ y.cls ≠ "java/lang/invoke/VarHandle") (hml : Ls.size = c.maxLocals) {a : Addr} {argsL : List Value} {ps : List FieldType} {rt : Option FieldType} (pd : parseMethodDescriptor y.desc = some ⟨ps, rt⟩) (hlen : argsL.length = ps.length)
    (eT : T.heap = h) (E : Exa Z h a C)
    (hM : MetFree l z (head1 [Cond.code z bytes maxL ret] rm) (fun b U => b = (.ref a :: argsL).toArray ∧ Z.Warmed39 U.vm ∧ U.heap = h) (fun _ _ _ _ _ => True) (fun _ U o U' => ∃ v L, o = .returned v ∧ Qc v U'.heap L ∧ FrameEnd U o U' L rm.cells rm.slots))
    (hf : rm.frames + 1 ≤ R.frames) (hl : W + (maxL + 11) + rm.locals ≤ R.locals) (hW : (rest.map fun v => v.category).sum ≤ W) (hc : cells + rm.cells ≤ R.cells) (hs : slots + rm.slots ≤ R.slots) {st : List Value} (hst : st = argsL.reverse ++ .ref a :: rest) (hd : decode c.code pc = .ok (.invokevirtual index, 3))
    (g : ∀ (v : Option Value) (T' : State) (L : List Loc), Stand p l e R s m args below meth c T' (locs ++ L) (cells + rm.cells) (slots + rm.slots) → Qc v T'.heap L → own_Go p e below Fin T' (mkF m (pc + 3) Ls (v.toList ++ rest))) :
    own_Go p e below Fin T (mkF m pc Ls st) := by
  subst hst
  obtain ⟨cq, kq, qa, qb, qc⟩ := isOf hZ eT E
  obtain ⟨v, _, ⟨T2, L2, k2, n2⟩, -, X2, ⟨Lc2, hQ2, l2, y2, z2⟩, st2⟩ := X.virtualBack hx (y := y) (z := z) hown (mvT hZ w1) (mvT hZ wd) nf (mvT hZ ws) (mvT hZ w2) hy (backOf (W := W) hM hZ w4 w3 hf hl) qa qc (g := (mkF m pc Ls (argsL.reverse ++ .ref a :: rest))) rfl hml (Steps.refl _) (argsL := argsL) (rest := rest) (lenOf pd hlen) rfl (by show 2 * 0 + _ ≤ _; omega) hd (fun _ _ => ⟨rfl, eT, hc, hs⟩)
  dsimp only [Pt.U, Pt.locs, Pt.cells, Pt.slots] at X2 l2 y2 z2 st2 hQ2
  subst l2 y2 z2
  exact own_by (fun t kk => st2.trans kk) (g v T2 Lc2 X2 hQ2)
theorem own_getF (X : Stand p l e R s m args below meth c T locs cells slots) (hx : p.tables.exec = Jvm.exec) (hZ : Z.Warmed39 s.vm) {own R0 O nm d : String} {index : Nat} (hown : s.vm.findClass own = some m.cls) (w : (Cond.fieldLink own index R0 nm d).before a0 Z = true) (via : Via Z R0 O nm d) (eT : T.heap = h) {a : Addr} {v : Value} (F : Fld Z h a O nm d v) (hd : decode c.code pc = .ok (.getfield index, 3))
    (g : ∀ T', Stand p l e R s m args below meth c T' locs cells slots → T'.heap = h → own_Go p e below Fin T' (mkF m (pc + 3) Ls (v :: rest))) : own_Go p e below Fin T (mkF m pc Ls (.ref a :: rest)) := by
  obtain ⟨T', X', e', st⟩ := getF X hx hZ hown (host := "") (Or.inl w) via eT F (g := mkF m pc Ls (.ref a :: rest)) rfl rfl hd
  exact own_by (fun t kk => st _ kk) (g T' X' e')
theorem own_getFN (X : Stand p l e R s m args below meth c T locs cells slots) (hx : p.tables.exec = Jvm.exec) (hZ : Z.Warmed39 s.vm) {own R0 O nm d host : String} {index : Nat} (hown : s.vm.findClass own = some m.cls) (w : (Cond.fieldLinkNest own index R0 nm d host).before a0 Z = true) (via : Via Z R0 O nm d) (eT : T.heap = h) {a : Addr} {v : Value} (F : Fld Z h a O nm d v) (hd : decode c.code pc = .ok (.getfield index, 3))
    (g : ∀ T', Stand p l e R s m args below meth c T' locs cells slots → T'.heap = h → own_Go p e below Fin T' (mkF m (pc + 3) Ls (v :: rest))) : own_Go p e below Fin T (mkF m pc Ls (.ref a :: rest)) := by
  obtain ⟨T', X', e', st⟩ := getF X hx hZ hown (Or.inr w) via eT F (g := mkF m pc Ls (.ref a :: rest)) rfl rfl hd
  exact own_by (fun t kk => st _ kk) (g T' X' e')
theorem own_getS (X : Stand p l e R s m args below meth c T locs cells slots) (hx : p.tables.exec = Jvm.exec) (hZ : Z.Warmed39 s.vm) {own R0 O nm d : String} {index : Nat} (hown : s.vm.findClass own = some m.cls) (w : (Cond.fieldLink own index R0 nm d).before a0 Z = true) (via : Via Z R0 O nm d) (eT : T.heap = h) {v : Value} (F : Sta Z h O nm d v) (hd : decode c.code pc = .ok (.getstatic index, 3)) {st0 : List Value}
    (g : ∀ T', Stand p l e R s m args below meth c T' locs cells slots → T'.heap = h → own_Go p e below Fin T' (mkF m (pc + 3) Ls (v :: st0))) : own_Go p e below Fin T (mkF m pc Ls st0) := by
  obtain ⟨T', X', e', st⟩ := getS2 X hx hZ hown (host := "") (Or.inl w) via eT F (g := mkF m pc Ls st0) rfl hd
  exact own_by (fun t kk => st _ kk) (g T' X' e')
theorem own_getSN (X : Stand p l e R s m args below meth c T locs cells slots) (hx : p.tables.exec = Jvm.exec) (hZ : Z.Warmed39 s.vm) {own R0 O nm d host : String} {index : Nat} (hown : s.vm.findClass own = some m.cls) (w : (Cond.fieldLinkNest own index R0 nm d host).before a0 Z = true) (via : Via Z R0 O nm d) (eT : T.heap = h) {v : Value} (F : Sta Z h O nm d v) (hd : decode c.code pc = .ok (.getstatic index, 3)) {st0 : List Value}
    (g : ∀ T', Stand p l e R s m args below meth c T' locs cells slots → T'.heap = h → own_Go p e below Fin T' (mkF m (pc + 3) Ls (v :: st0))) : own_Go p e below Fin T (mkF m pc Ls st0) := by
  obtain ⟨T', X', e', st⟩ := getS2 X hx hZ hown (Or.inr w) via eT F (g := mkF m pc Ls st0) rfl hd
  exact own_by (fun t kk => st _ kk) (g T' X' e')
theorem own_putF (X : Stand p l e R s m args below meth c T locs cells slots) (hx : p.tables.exec = Jvm.exec) (hZ : Z.Warmed39 s.vm) {own R0 O nm d C : String} {index kk : Nat} {ty : FieldType} (hown : s.vm.findClass own = some m.cls) (w : (Cond.fieldLink own index R0 nm d).before a0 Z = true) (via : Via Z R0 O nm d) (eT : T.heap = h) {a : Addr} {v old : Value} (F : Fld Z h a O nm d old) (E : Exa Z h a C)
    (L : (Cond.lays C O nm d).before a0 Z = true ∨ ((Cond.laysFinal C O nm d).before a0 Z = true ∧ own = O ∧ meth.name = "<init>")) (wi : (Cond.instantiable C kk).before a0 Z = true) (hty : parseFieldDescriptor d = some ty) (hn : narrow ty v = v) (hf : fits ty v = true) (hd : decode c.code pc = .ok (.putfield index, 3))
    (g : ∀ T' h', Stand p l e R s m args below meth c T' (locs ++ [⟨a, Jvm.RoadKit.slotOf Z O nm d⟩]) cells slots → T'.heap = h' → Wr h h' a (Jvm.RoadKit.slotOf Z O nm d) v → own_Go p e below Fin T' (mkF m (pc + 3) Ls rest)) : own_Go p e below Fin T (mkF m pc Ls (v :: .ref a :: rest)) := by
  obtain ⟨T', h', X', e', W', st⟩ := putF X hx hZ hown (host := "") (Or.inl w) via eT F E L wi hty hn hf (g := mkF m pc Ls (v :: .ref a :: rest)) rfl rfl hd
  exact own_by (fun t kk => st _ kk) (g T' h' X' e' W')
theorem own_newO (X : Stand p l e R s m args below meth c T locs cells slots) (hx : p.tables.exec = Jvm.exec) (hZ : Z.Warmed39 s.vm) {own C : String} {index nn : Nat} (hown : s.vm.findClass own = some m.cls) (w : (Cond.classLink own index C).before a0 Z = true) (wi : (Cond.instantiable C nn).before a0 Z = true) (wz : (Cond.initialized C).before a0 Z = true) (eT : T.heap = h) (hd : decode c.code pc = .ok (.new index, 3)) (hc : cells + 1 ≤ R.cells) (hl : slots + nn ≤ R.slots) {st0 : List Value}
    (g : ∀ T' h' (b : Addr), Stand p l e R s m args below meth c T' locs (cells + 1) (slots + nn) → T'.heap = h' → b = h.size → Ext h h' → Exa Z h' b C → (∀ {O nm d : String} {ty : FieldType}, Laid Z a0 C O nm d → parseFieldDescriptor d = some ty → Fld Z h' b O nm d (defaultValue ty)) → own_Go p e below Fin T' (mkF m (pc + 3) Ls (.ref b :: st0))) : own_Go p e below Fin T (mkF m pc Ls st0) := by
  obtain ⟨T', h', X', e', E', A', D', -, st⟩ := newO X hx hZ hown w wi wz eT (g := mkF m pc Ls st0) rfl hd hc hl
  exact own_by (fun t kk => st _ kk) (g T' h' _ X' e' rfl E' A' D')
theorem own_initO (X : Stand p l e R s m args below meth c T locs cells slots) (hx : p.tables.exec = Jvm.exec) (hZ : Z.Warmed39 s.vm) {own : String} {idx : Nat} (hown : s.vm.findClass own = some m.cls) (w1 : (Cond.methodLink own idx Lib.objectInit).before a0 Z = true) (w2 : (Cond.instanceMethod Lib.objectInit).before a0 Z = true) (w3 : (Cond.code Lib.objectInit ⟨#[0xb1]⟩ 1 none).before a0 Z = true) (eT : T.heap = h) (hml : Ls.size = c.maxLocals) {a : Addr} (hd : decode c.code pc = .ok (.invokespecial idx, 3)) (hf : 1 ≤ R.frames) {W : Nat} (hW : (rest.map fun v => v.category).sum ≤ W) (hl : W + 12 ≤ R.locals)
    (g : ∀ T', Stand p l e R s m args below meth c T' locs cells slots → T'.heap = h → own_Go p e below Fin T' (mkF m (pc + 3) Ls rest)) : own_Go p e below Fin T (mkF m pc Ls (.ref a :: rest)) := by
  obtain ⟨T', X', e', st⟩ := initO X hx hZ hown w1 w2 w3 eT (g := mkF m pc Ls (.ref a :: rest)) rfl hml rfl hd hf (W := W) (by show 2 * 0 + _ ≤ _; omega) hl
  exact own_by (fun t kk => st _ kk) (g T' X' e')
end OwnKit
section OwnMore
variable {p : Program} {l : Launch} {e : Env} {R : Room} {s : State} {m : MethodId} {args : Array Value} {below : List Frame} {meth : Method} {c : Code} {T T' : State} {locs : List Loc} {cells slots : Nat} {Q : Option Value → Heap → List Loc → Prop} {k n : Nat} {Fin : Outcome → State → Prop} {Z : State} {a0 : Array Value} {h : Heap} {pc : Nat} {Ls : Array Slot} {rest : List Value}
theorem own_acmpEq (X : Stand p l e R s m args below meth c T locs cells slots) (hx : p.tables.exec = Jvm.exec) {a b : Addr} {o : Int} (pc' : Nat) (hd : decode c.code pc = .ok (.if_acmp .eq o, 3)) (ho : 0 ≤ (pc : Int) + o) (hp : ((pc : Int) + o).toNat = pc')
    (g1 : a = b → own_Go p e below Fin T (mkF m pc' Ls rest)) (g2 : ¬ a = b → own_Go p e below Fin T (mkF m (pc + 3) Ls rest)) : own_Go p e below Fin T (mkF m pc Ls (.ref b :: .ref a :: rest)) := by
  by_cases q : a = b
  · exact own_by (fun t kk => XT.acmpYes X.here hx rfl (pc0 := pc) (pc' := pc') rfl hd rfl rfl rfl (decide_eq_true (congrArg Value.ref q)) ho hp kk) (g1 q)
  · exact own_by (fun t kk => XT.acmpNo X.here hx rfl hd rfl rfl rfl (decide_eq_false fun z => q (Value.ref.inj z)) kk) (g2 q)
theorem own_acmpNe (X : Stand p l e R s m args below meth c T locs cells slots) (hx : p.tables.exec = Jvm.exec) {a b : Addr} {o : Int} (pc' : Nat) (hd : decode c.code pc = .ok (.if_acmp .ne o, 3)) (ho : 0 ≤ (pc : Int) + o) (hp : ((pc : Int) + o).toNat = pc')
    (g1 : ¬ a = b → own_Go p e below Fin T (mkF m pc' Ls rest)) (g2 : a = b → own_Go p e below Fin T (mkF m (pc + 3) Ls rest)) : own_Go p e below Fin T (mkF m pc Ls (.ref b :: .ref a :: rest)) := by
  by_cases q : a = b
  · exact own_by (fun t kk => XT.acmpNo X.here hx rfl hd rfl rfl rfl (decide_eq_false fun z => z (congrArg Value.ref q)) kk) (g2 q)
  · exact own_by (fun t kk => XT.acmpYes X.here hx rfl (pc0 := pc) (pc' := pc') rfl hd rfl rfl rfl (decide_eq_true fun z => q (Value.ref.inj z)) ho hp kk) (g1 q)
theorem own_eqI {args : Array Value} {t : Term} {x : Int32} (h : (Cond.eq t (.int x)).value args s none s [] = some true) : t.eval args s none [] s = some (.int x) := by
  have q : (Term.int x).eval args s none [] s = some (.int x) := rfl
  cases ht : t.eval args s none [] s with
  | none => simp [Cond.value, ht] at h
  | some w => cases w <;> simp [Cond.value, ht, q] at h <;> (try subst h) <;> simp_all
theorem own_enumF {args : Array Value} {C f d O nm dd : String} {a : Addr} {x : Int32} (ev : (Term.static C f d).eval args s none [] s = some (.ref a)) (h : (Cond.eq (Term.field (Term.static C f d) O nm dd) (.int x)).value args s none s [] = some true) : Fld s s.heap a O nm dd (.int x) :=
  Fld.start ((fld_at ev).symm.trans (own_eqI h))
theorem own_Sta_keep {Z : State} {h h' : Heap} {C n d : String} {v : Value} {ws : List Addr} (F : Sta Z h C n d v) (K : Keep h h' ws) (q : ∀ x ∈ ws, ∀ cell : Cell, h[x]? = some cell → cell.vm.isStatics = false) : Sta Z h' C n d v := by
  obtain ⟨cf, i, k, f, st, cell, h1, h2, h3, h4, h5, h6, h7⟩ := F
  exact ⟨cf, i, k, f, st, cell, h1, h2, h3, h4, K.2.1 st cell h5 (fun z => by rw [q st z cell h5] at h6; cases h6), h6, h7⟩
end OwnMore
section OwnCall
variable {p : Program} {l : Launch} {e : Env} {R : Room} {s : State} {m : MethodId} {args : Array Value} {below : List Frame} {meth : Method} {c : Code} {T T' : State} {locs : List Loc} {cells slots : Nat} {Fin : Outcome → State → Prop} {Z : State} {a0 : Array Value} {h : Heap} {pc : Nat} {Ls : Array Slot} {rest : List Value}
/-- a private method is selected itself -/
theorem own_selp {y : MethodName} {nn : Nat} (hins : (Cond.instantiable y.cls nn).before args s = true) (hpriv : (Cond.privateMethod y).before args s = true) (hinst : (Cond.instanceMethod y).before args s = true) (hy : y.cls ≠ "java/lang/invoke/MethodHandle" ∧ y.cls ≠ "java/lang/invoke/VarHandle") :
    (Cond.selects y.cls y y).before args s = true := by
  obtain ⟨cc, kc, hc, hk, -, hniab, -, -⟩ := Cond.instantiable_spec hins
  have hni : kc.isInterface = false := (Bool.or_eq_false_iff.mp hniab).1
  obtain ⟨mk, methM, hnamed, hmethM, -, -⟩ := Cond.instanceMethod_spec hinst
  have hfound : s.methodFound? y.cls y.name y.desc = some mk := State.methodFound?_of_named hnamed hy
  have hcls : mk.cls = cc := Option.some.inj ((findClass_of_methodNamed hnamed).symm.trans hc)
  have hsel : selectMethod {} s.vm cc mk = .method mk := selectMethod_private hmethM (Cond.privateMethod_at hpriv mk methM hnamed hmethM)
  simp only [Cond.before, Cond.holds, Cond.value, hc, hfound, hnamed, hsel, hcls, hk]
  simp; exact hni
/-- a private method of the receiver by its contract -/
theorem own_callP (X : Stand p l e R s m args below meth c T locs cells slots) (hx : p.tables.exec = Jvm.exec) (hZ : Z.Warmed39 s.vm) {own C : String} {index nn : Nat} {y : MethodName} {bytes : ByteArray} {maxL W : Nat} {ret : Option FieldType} {rm : Room} {Qc : Option Value → Heap → List Loc → Prop}
    (hown : s.vm.findClass own = some m.cls) (w1 : (Cond.methodLink own index y).before a0 Z = true) (w2 : (Cond.instanceMethod y).before a0 Z = true) (wi : (Cond.instantiable y.cls nn).before a0 Z = true) (wp : (Cond.privateMethod y).before a0 Z = true) (w3 : (Cond.initialized y.cls).before a0 Z = true) (w4 : (Cond.code y bytes maxL ret).before a0 Z = true)
    (hy : y.cls ≠ "java/lang/invoke/MethodHandle" ∧ y.cls ≠ "java/lang/invoke/VarHandle") (hml : Ls.size = c.maxLocals) {a : Addr} {argsL : List Value} {ps : List FieldType} {rt : Option FieldType} (pd : parseMethodDescriptor y.desc = some ⟨ps, rt⟩) (hlen : argsL.length = ps.length)
    (eT : T.heap = h) (E : Exa Z h a C)
    (hM : MetFree l y (head1 [Cond.code y bytes maxL ret] rm) (fun b U => b = (.ref a :: argsL).toArray ∧ Z.Warmed39 U.vm ∧ U.heap = h) (fun _ _ _ _ _ => True) (fun _ U o U' => ∃ v L, o = .returned v ∧ Qc v U'.heap L ∧ FrameEnd U o U' L rm.cells rm.slots))
    (hf : rm.frames + 1 ≤ R.frames) (hl : W + (maxL + 11) + rm.locals ≤ R.locals) (hW : (rest.map fun v => v.category).sum ≤ W) (hc : cells + rm.cells ≤ R.cells) (hs : slots + rm.slots ≤ R.slots) {st : List Value} (hst : st = argsL.reverse ++ .ref a :: rest) (hd : decode c.code pc = .ok (.invokevirtual index, 3))
    (g : ∀ (v : Option Value) (T' : State) (L : List Loc), Stand p l e R s m args below meth c T' (locs ++ L) (cells + rm.cells) (slots + rm.slots) → Qc v T'.heap L → own_Go p e below Fin T' (mkF m (pc + 3) Ls (v.toList ++ rest))) :
    own_Go p e below Fin T (mkF m pc Ls st) := by
  subst hst
  obtain ⟨cq, q1, q2⟩ := E.cell
  obtain ⟨v, _, ⟨T2, L2, k2, n2⟩, -, X2, ⟨Lc2, hQ2, l2, y2, z2⟩, st2⟩ := X.privateBack hx (y := y) hown (mvT hZ w1) (mvT hZ w2) (own_selp (mvT hZ wi) (mvP hZ wp) (mvT hZ w2) hy) (Cond.privateMethod_at (mvP hZ wp (args := #[]))) (mvT hZ w4) hy (backOf (W := W) hM hZ w4 w3 hf hl) (g := (mkF m pc Ls (argsL.reverse ++ .ref a :: rest))) rfl hml (Steps.refl _) (a := a) (by rw [eT]; exact q1) q2 (argsL := argsL) (rest := rest) (lenOf pd hlen) rfl (by show 2 * 0 + _ ≤ _; omega) hd (fun _ _ => ⟨rfl, eT, hc, hs⟩)
  dsimp only [Pt.U, Pt.locs, Pt.cells, Pt.slots] at X2 l2 y2 z2 st2 hQ2
  subst l2 y2 z2
  exact own_by (fun t kk => st2.trans kk) (g v T2 Lc2 X2 hQ2)
/-- an interface's method by the contract of the body that the receiver's class selects -/
theorem own_callI (X : Stand p l e R s m args below meth c T locs cells slots) (hx : p.tables.exec = Jvm.exec) (hZ : Z.Warmed39 s.vm) {own C : String} {index count : Nat} {xi y : MethodName} {bytes : ByteArray} {maxL W : Nat} {ret : Option FieldType} {rm : Room} {Qc : Option Value → Heap → List Loc → Prop}
    (hown : s.vm.findClass own = some m.cls) (w1 : (Cond.methodLink own index xi).before a0 Z = true) (wd : (Cond.declares xi).before a0 Z = true) (wf : (Cond.interfaceMethod xi.cls xi.cls xi.name xi.desc).before a0 Z = true) (hwf : ((Cond.interfaceMethod xi.cls xi.cls xi.name xi.desc).onTables && (Cond.interfaceMethod xi.cls xi.cls xi.name xi.desc).keepsFace) = true) (ws : (Cond.selects C xi y).before a0 Z = true) (w2 : (Cond.instanceMethod y).before a0 Z = true) (wp : (Cond.publicMethod y).before a0 Z = true) (wu : (Cond.unhidden C xi.name xi.desc).before a0 Z = true) (wc : (Cond.castable C xi.cls).before a0 Z = true) (w3 : (Cond.initialized y.cls).before a0 Z = true) (w4 : (Cond.code y bytes maxL ret).before a0 Z = true)
    (hy : xi.cls ≠ "java/lang/invoke/MethodHandle" ∧ xi.cls ≠ "java/lang/invoke/VarHandle") (hml : Ls.size = c.maxLocals) {a : Addr} {argsL : List Value} {ps : List FieldType} {rt : Option FieldType} (pd : parseMethodDescriptor xi.desc = some ⟨ps, rt⟩) (hlen : argsL.length = ps.length)
    (eT : T.heap = h) (E : Exa Z h a C)
    (hM : MetFree l y (head1 [Cond.code y bytes maxL ret] rm) (fun b U => b = (.ref a :: argsL).toArray ∧ Z.Warmed39 U.vm ∧ U.heap = h) (fun _ _ _ _ _ => True) (fun _ U o U' => ∃ v L, o = .returned v ∧ Qc v U'.heap L ∧ FrameEnd U o U' L rm.cells rm.slots))
    (hf : rm.frames + 1 ≤ R.frames) (hl : W + (maxL + 11) + rm.locals ≤ R.locals) (hW : (rest.map fun v => v.category).sum ≤ W) (hc : cells + rm.cells ≤ R.cells) (hs : slots + rm.slots ≤ R.slots) {st : List Value} (hst : st = argsL.reverse ++ .ref a :: rest) (hd : decode c.code pc = .ok (.invokeinterface index count, 5))
    (g : ∀ (v : Option Value) (T' : State) (L : List Loc), Stand p l e R s m args below meth c T' (locs ++ L) (cells + rm.cells) (slots + rm.slots) → Qc v T'.heap L → own_Go p e below Fin T' (mkF m (pc + 5) Ls (v.toList ++ rest))) :
    own_Go p e below Fin T (mkF m pc Ls st) := by
  subst hst
  obtain ⟨cq, kq, qa, qb, qc⟩ := isOf hZ eT E
  obtain ⟨v, _, ⟨T2, L2, k2, n2⟩, -, X2, ⟨Lc2, hQ2, l2, y2, z2⟩, st2⟩ := X.interfaceBack hx (xi := xi) (y := y) hown (mvT hZ w1) (mvT hZ wd) (mvT hZ wf hwf) (mvT hZ ws) (mvT hZ w2) (mvT hZ wp) (mvT hZ wu) (mvT hZ wc) hy (backOf (W := W) hM hZ w4 w3 hf hl) qa qb qc (g := (mkF m pc Ls (argsL.reverse ++ .ref a :: rest))) rfl hml (Steps.refl _) (argsL := argsL) (rest := rest) (lenOf pd hlen) rfl (by show 2 * 0 + _ ≤ _; omega) hd (fun _ _ => ⟨rfl, eT, hc, hs⟩)
  dsimp only [Pt.U, Pt.locs, Pt.cells, Pt.slots] at X2 l2 y2 z2 st2 hQ2
  subst l2 y2 z2
  exact own_by (fun t kk => st2.trans kk) (g v T2 Lc2 X2 hQ2)
theorem own_cast (X : Stand p l e R s m args below meth c T locs cells slots) (hx : p.tables.exec = Jvm.exec) (hZ : Z.Warmed39 s.vm) {own K : String} {index : Nat} (hown : s.vm.findClass own = some m.cls) (w : (Cond.classLink own index K).before a0 Z = true) (eT : T.heap = h) {a : Addr} (F : Ins Z h a K true) (hd : decode c.code pc = .ok (.checkcast index, 3))
    (g : ∀ T', Stand p l e R s m args below meth c T' locs cells slots → T'.heap = h → own_Go p e below Fin T' (mkF m (pc + 3) Ls (.ref a :: rest))) : own_Go p e below Fin T (mkF m pc Ls (.ref a :: rest)) := by
  obtain ⟨T', X', e', st⟩ := castY X hx hZ hown w eT F (g := mkF m pc Ls (.ref a :: rest)) rfl rfl hd
  exact own_by (fun t kk => st _ kk) (g T' X' e')
theorem own_inst (X : Stand p l e R s m args below meth c T locs cells slots) (hx : p.tables.exec = Jvm.exec) (hZ : Z.Warmed39 s.vm) {own K : String} {index : Nat} (hown : s.vm.findClass own = some m.cls) (w : (Cond.classLink own index K).before a0 Z = true) (eT : T.heap = h) {a : Addr} (F : Ins Z h a K true) (hd : decode c.code pc = .ok (.instanceof index, 3))
    (g : ∀ T', Stand p l e R s m args below meth c T' locs cells slots → T'.heap = h → own_Go p e below Fin T' (mkF m (pc + 3) Ls (.int (1 : Int32) :: rest))) : own_Go p e below Fin T (mkF m pc Ls (.ref a :: rest)) := by
  obtain ⟨T', X', e', st⟩ := instY X hx hZ hown w eT F (g := mkF m pc Ls (.ref a :: rest)) rfl rfl hd
  exact own_by (fun t kk => st _ kk) (g T' X' e')
end OwnCall
section OwnArr
variable {p : Program} {l : Launch} {e : Env} {R : Room} {s : State} {m : MethodId} {args : Array Value} {below : List Frame} {meth : Method} {c : Code} {T T' : State} {locs : List Loc} {cells slots : Nat} {Q : Option Value → Heap → List Loc → Prop} {k n : Nat} {Fin : Outcome → State → Prop} {Z : State} {a0 : Array Value} {h h' : Heap} {pc : Nat} {Ls : Array Slot} {rest : List Value}
/-- the array at a holds just vs -/
def own_Arr (Z : State) (h : Heap) (a : Addr) (ty : FieldType) (vs : List Value) : Prop := ∃ cl : Cell, Arr Z h a cl ty ∧ cl.slots = vs.toArray ∧ vs.length < 2 ^ 31 ∧ ∀ v ∈ vs, fits ty v = true
section Facts
variable {a b : Addr} {ty : FieldType} {vs : List Value} {sl : Nat} {v : Value} {ws : List Addr}
theorem own_Arr.lt (F : own_Arr Z h a ty vs) : a < h.size := by obtain ⟨c, A, -⟩ := F; exact A.lt
theorem own_Arr.ext (F : own_Arr Z h a ty vs) (E : Ext h h') : own_Arr Z h' a ty vs := by obtain ⟨c, A, r⟩ := F; exact ⟨c, A.ext E, r⟩
theorem own_Arr.other (F : own_Arr Z h b ty vs) (W : Wr h h' a sl v) (q : b ≠ a) : own_Arr Z h' b ty vs := by obtain ⟨c, A, r⟩ := F; exact ⟨c, A.other W q, r⟩
theorem own_Arr.keep (F : own_Arr Z h a ty vs) (K : Keep h h' ws) (q : a ∉ ws) : own_Arr Z h' a ty vs := by obtain ⟨c, A, r⟩ := F; exact ⟨c, ⟨K.2.1 a c A.1 q, A.2⟩, r⟩
theorem own_Arr.set (F : own_Arr Z h a ty vs) (W : Wr h h' a sl v) (hv : fits ty v = true) : own_Arr Z h' a ty (vs.set sl v) := by
  obtain ⟨c, A, r1, r2, r3⟩ := F
  refine ⟨_, A.same W, ?_, by simpa using r2, fun u hu => ?_⟩
  rotate_left
  · rcases List.mem_or_eq_of_mem_set hu with q | q
    · exact r3 u q
    · rw [q]; exact hv
  show c.slots.setIfInBounds sl v = _
  rw [r1]; simp
theorem own_idx {j : Int32} {i : Nat} (hj : j.toInt = (i : Int)) : j.toNatClampNeg = i ∧ ¬ j < 0 := by
  constructor
  · show j.toInt.toNat = i
    rw [hj]; simp
  · rw [Int32.lt_iff_toInt_lt, hj]
    have : (0 : Int32).toInt = 0 := by decide
    omega
theorem own_inb {cl : Cell} {j : Int32} {i : Nat} (hj : j.toInt = (i : Int)) (hs : cl.slots = vs.toArray) (hi : i < vs.length) : ¬ (j < 0 ∨ cl.slots.size ≤ j.toNatClampNeg) := by
  obtain ⟨q1, q2⟩ := own_idx hj
  rw [q1, hs]
  intro q
  rcases q with q | q
  · exact q2 q
  · simp at q; omega
theorem own_lt_of {i : Nat} {v : Value} (hv : vs[i]? = some v) : i < vs.length := (List.getElem?_eq_some_iff.mp hv).1
theorem own_Arr.new {cA : ClassId} {j : Int32} {i : Nat} (A : Arr Z h a (newA cA ty j) ty) (hj : j.toInt = (i : Int)) : own_Arr Z h a ty (List.replicate i (defaultValue ty)) := by
  refine ⟨_, A, ?_, ?_, fun u hu => ?_⟩
  rotate_left 2
  · rw [(List.mem_replicate.mp hu).2]
    cases ty <;> rfl
  · show Array.replicate j.toNatClampNeg (defaultValue ty) = _
    rw [(own_idx hj).1]; simp
  · have := Int32.toInt_lt j
    simp; omega
end Facts
theorem own_newP (X : Stand p l e R s m args below meth c T locs cells slots) (hx : p.tables.exec = Jvm.exec) (hZ : Z.Warmed39 s.vm) {aty : ArrayType} (w : (Cond.arrayClass (newarray.typeOf aty)).before a0 Z = true) (eT : T.heap = h) (hd : decode c.code pc = .ok (.newarray aty, 2)) {j : Int32} (i cap : Nat) (hj : j.toInt = (i : Int)) (hcap : i ≤ cap) (hb : cap * 8 ≤ 536870912) (hc : cells + 1 ≤ R.cells) (hl : slots + cap ≤ R.slots)
    (g : ∀ T' h' (b : Addr), Stand p l e R s m args below meth c T' locs (cells + 1) (slots + cap) → T'.heap = h' → b = h.size → Ext h h' → own_Arr Z h' b (newarray.typeOf aty) (List.replicate i (defaultValue (newarray.typeOf aty))) → own_Go p e below Fin T' (mkF m (pc + 2) Ls (.ref b :: rest))) : own_Go p e below Fin T (mkF m pc Ls (.int j :: rest)) := by
  obtain ⟨q1, q2⟩ := own_idx hj
  obtain ⟨T', h', cA, X', e', E', A', st⟩ := newP X hx hZ w eT (g := mkF m pc Ls (.int j :: rest)) rfl hd rfl q2 (cap := cap) (by rw [q1]; exact hcap) hb hc hl
  exact own_by (fun t kk => st _ kk) (g T' h' _ X' e' rfl E' (own_Arr.new A' hj))
theorem own_iastore (X : Stand p l e R s m args below meth c T locs cells slots) (hx : p.tables.exec = Jvm.exec) (hZ : Z.Warmed39 s.vm) (eT : T.heap = h) {a : Addr} {vs : List Value} (A : own_Arr Z h a .int vs) {j x : Int32} (i : Nat) (hj : j.toInt = (i : Int)) (hi : i < vs.length) (hd : decode c.code pc = .ok (.iastore, 1))
    (g : ∀ T' h', Stand p l e R s m args below meth c T' (locs ++ [⟨a, i⟩]) cells slots → T'.heap = h' → Wr h h' a i (.int x) → own_Arr Z h' a .int (vs.set i (.int x)) → own_Go p e below Fin T' (mkF m (pc + 1) Ls rest)) : own_Go p e below Fin T (mkF m pc Ls (.int x :: .int j :: .ref a :: rest)) := by
  have A' := A
  obtain ⟨cl, A1, r1, r2⟩ := A
  obtain ⟨T', h', X', e', W', st⟩ := stI X hx hZ eT A1 (own_inb hj r1 hi) (g := mkF m pc Ls (.int x :: .int j :: .ref a :: rest)) rfl rfl hd
  rw [(own_idx hj).1] at X' W'
  exact own_by (fun t kk => st _ kk) (g T' h' X' e' W' (A'.set W' rfl))
theorem own_iaload (X : Stand p l e R s m args below meth c T locs cells slots) (hx : p.tables.exec = Jvm.exec) (hZ : Z.Warmed39 s.vm) (eT : T.heap = h) {a : Addr} {vs : List Value} (A : own_Arr Z h a .int vs) {j : Int32} {v : Value} (i : Nat) (hj : j.toInt = (i : Int)) (hv : vs[i]? = some v) (hd : decode c.code pc = .ok (.iaload, 1))
    (g : own_Go p e below Fin T (mkF m (pc + 1) Ls (v :: rest))) : own_Go p e below Fin T (mkF m pc Ls (.int j :: .ref a :: rest)) := by
  obtain ⟨cl, A1, r1, r2⟩ := A
  exact own_by (fun t kk => X.iaload hx (j := j) (v := v) (by rw [eT]; exact A1.1) (State.isArrayOf_alike hZ.alike A1.2.1) A1.2.2 (own_inb hj r1 (own_lt_of hv)) (by rw [(own_idx hj).1, r1]; simpa using hv) (g := mkF m pc Ls (.int j :: .ref a :: rest)) rfl rfl hd _ kk) g
theorem own_caload (X : Stand p l e R s m args below meth c T locs cells slots) (hx : p.tables.exec = Jvm.exec) (hZ : Z.Warmed39 s.vm) (eT : T.heap = h) {a : Addr} {vs : List Value} (A : own_Arr Z h a .char vs) {j : Int32} {v : Value} (i : Nat) (hj : j.toInt = (i : Int)) (hv : vs[i]? = some v) (hd : decode c.code pc = .ok (.caload, 1))
    (g : own_Go p e below Fin T (mkF m (pc + 1) Ls (v :: rest))) : own_Go p e below Fin T (mkF m pc Ls (.int j :: .ref a :: rest)) := by
  obtain ⟨cl, A1, r1, r2⟩ := A
  exact own_by (fun t kk => X.caload hx (j := j) (v := v) (by rw [eT]; exact A1.1) (State.isArrayOf_alike hZ.alike A1.2.1) A1.2.2 (own_inb hj r1 (own_lt_of hv)) (by rw [(own_idx hj).1, r1]; simpa using hv) (g := mkF m pc Ls (.int j :: .ref a :: rest)) rfl rfl hd _ kk) g
theorem own_baload (X : Stand p l e R s m args below meth c T locs cells slots) (hx : p.tables.exec = Jvm.exec) (hZ : Z.Warmed39 s.vm) (eT : T.heap = h) {a : Addr} {vs : List Value} (A : own_Arr Z h a .byte vs) {j : Int32} {v : Value} (i : Nat) (hj : j.toInt = (i : Int)) (hv : vs[i]? = some v) (hd : decode c.code pc = .ok (.baload, 1))
    (g : own_Go p e below Fin T (mkF m (pc + 1) Ls (v :: rest))) : own_Go p e below Fin T (mkF m pc Ls (.int j :: .ref a :: rest)) := by
  obtain ⟨cl, A1, r1, r2⟩ := A
  exact own_by (fun t kk => X.baloadBytes hx (j := j) (v := v) (by rw [eT]; exact A1.1) (State.isArrayOf_alike hZ.alike A1.2.1) A1.2.2 (own_inb hj r1 (own_lt_of hv)) (by rw [(own_idx hj).1, r1]; simpa using hv) (g := mkF m pc Ls (.int j :: .ref a :: rest)) rfl rfl hd _ kk) g
theorem own_laload (X : Stand p l e R s m args below meth c T locs cells slots) (hx : p.tables.exec = Jvm.exec) (hZ : Z.Warmed39 s.vm) (eT : T.heap = h) {a : Addr} {vs : List Value} (A : own_Arr Z h a .long vs) {j : Int32} {v : Value} (i : Nat) (hj : j.toInt = (i : Int)) (hv : vs[i]? = some v) (hd : decode c.code pc = .ok (.laload, 1))
    (g : own_Go p e below Fin T (mkF m (pc + 1) Ls (v :: rest))) : own_Go p e below Fin T (mkF m pc Ls (.int j :: .ref a :: rest)) := by
  obtain ⟨cl, A1, r1, r2⟩ := A
  exact own_by (fun t kk => X.laload hx (j := j) (v := v) (by rw [eT]; exact A1.1) (State.isArrayOf_alike hZ.alike A1.2.1) A1.2.2 (own_inb hj r1 (own_lt_of hv)) (by rw [(own_idx hj).1, r1]; simpa using hv) (g := mkF m pc Ls (.int j :: .ref a :: rest)) rfl rfl hd _ kk) g
theorem own_castore (X : Stand p l e R s m args below meth c T locs cells slots) (hx : p.tables.exec = Jvm.exec) (hZ : Z.Warmed39 s.vm) (eT : T.heap = h) {a : Addr} {vs : List Value} (A : own_Arr Z h a .char vs) {j : Int32} {x : Int32} (i : Nat) (hj : j.toInt = (i : Int)) (hi : i < vs.length) (hd : decode c.code pc = .ok (.castore, 1))
    (g : ∀ T' h', Stand p l e R s m args below meth c T' (locs ++ [⟨a, i⟩]) cells slots → T'.heap = h' → Wr h h' a i (.int (nar .char x)) → own_Arr Z h' a .char (vs.set i (.int (nar .char x))) → own_Go p e below Fin T' (mkF m (pc + 1) Ls rest)) : own_Go p e below Fin T (mkF m pc Ls (.int x :: .int j :: .ref a :: rest)) := by
  have A' := A
  obtain ⟨cl, A1, r1, r2⟩ := A
  obtain ⟨T', h', X', e', W', st⟩ := stC X hx hZ eT A1 (own_inb hj r1 hi) (g := mkF m pc Ls (.int x :: .int j :: .ref a :: rest)) rfl rfl hd
  rw [(own_idx hj).1] at X' W'
  exact own_by (fun t kk => st _ kk) (g T' h' X' e' W' (A'.set W' (fits_nar_char _)))
theorem own_bastore (X : Stand p l e R s m args below meth c T locs cells slots) (hx : p.tables.exec = Jvm.exec) (hZ : Z.Warmed39 s.vm) (eT : T.heap = h) {a : Addr} {vs : List Value} (A : own_Arr Z h a .byte vs) {j : Int32} {x : Int32} (i : Nat) (hj : j.toInt = (i : Int)) (hi : i < vs.length) (hd : decode c.code pc = .ok (.bastore, 1))
    (g : ∀ T' h', Stand p l e R s m args below meth c T' (locs ++ [⟨a, i⟩]) cells slots → T'.heap = h' → Wr h h' a i (.int (nar .byte x)) → own_Arr Z h' a .byte (vs.set i (.int (nar .byte x))) → own_Go p e below Fin T' (mkF m (pc + 1) Ls rest)) : own_Go p e below Fin T (mkF m pc Ls (.int x :: .int j :: .ref a :: rest)) := by
  have A' := A
  obtain ⟨cl, A1, r1, r2⟩ := A
  obtain ⟨T', h', X', e', W', st⟩ := stB X hx hZ eT A1 (own_inb hj r1 hi) (g := mkF m pc Ls (.int x :: .int j :: .ref a :: rest)) rfl rfl hd
  rw [(own_idx hj).1] at X' W'
  exact own_by (fun t kk => st _ kk) (g T' h' X' e' W' (A'.set W' (fits_nar_byte _)))
theorem own_lastore (X : Stand p l e R s m args below meth c T locs cells slots) (hx : p.tables.exec = Jvm.exec) (hZ : Z.Warmed39 s.vm) (eT : T.heap = h) {a : Addr} {vs : List Value} (A : own_Arr Z h a .long vs) {j : Int32} {x : Int64} (i : Nat) (hj : j.toInt = (i : Int)) (hi : i < vs.length) (hd : decode c.code pc = .ok (.lastore, 1))
    (g : ∀ T' h', Stand p l e R s m args below meth c T' (locs ++ [⟨a, i⟩]) cells slots → T'.heap = h' → Wr h h' a i (.long x) → own_Arr Z h' a .long (vs.set i (.long x)) → own_Go p e below Fin T' (mkF m (pc + 1) Ls rest)) : own_Go p e below Fin T (mkF m pc Ls (.long x :: .int j :: .ref a :: rest)) := by
  have A' := A
  obtain ⟨cl, A1, r1, r2⟩ := A
  obtain ⟨T', h', X', e', W', st⟩ := stJ X hx hZ eT A1 (own_inb hj r1 hi) (g := mkF m pc Ls (.long x :: .int j :: .ref a :: rest)) rfl rfl hd
  rw [(own_idx hj).1] at X' W'
  exact own_by (fun t kk => st _ kk) (g T' h' X' e' W' (A'.set W' rfl))
theorem own_castoreN (X : Stand p l e R s m args below meth c T locs cells slots) (hx : p.tables.exec = Jvm.exec) (hZ : Z.Warmed39 s.vm) (eT : T.heap = h) {a : Addr} {vs : List Value} (A : own_Arr Z h a .char vs) {j : Int32} {x : Int32} (hxn : nar .char x = x) (i : Nat) (hj : j.toInt = (i : Int)) (hi : i < vs.length) (hd : decode c.code pc = .ok (.castore, 1))
    (g : ∀ T' h', Stand p l e R s m args below meth c T' (locs ++ [⟨a, i⟩]) cells slots → T'.heap = h' → Wr h h' a i (.int x) → own_Arr Z h' a .char (vs.set i (.int x)) → own_Go p e below Fin T' (mkF m (pc + 1) Ls rest)) : own_Go p e below Fin T (mkF m pc Ls (.int x :: .int j :: .ref a :: rest)) :=
  own_castore X hx hZ eT A i hj hi hd (by rw [hxn]; exact g)
theorem own_alen (X : Stand p l e R s m args below meth c T locs cells slots) (hx : p.tables.exec = Jvm.exec) (hZ : Z.Warmed39 s.vm) (eT : T.heap = h) {a : Addr} {ty : FieldType} {vs : List Value} (A : own_Arr Z h a ty vs) (hd : decode c.code pc = .ok (.arraylength, 1))
    (g : own_Go p e below Fin T (mkF m (pc + 1) Ls (.int vs.length.toInt32 :: rest))) : own_Go p e below Fin T (mkF m pc Ls (.ref a :: rest)) := by
  obtain ⟨cl, A1, r1, r2⟩ := A
  have hl : cl.slots.size = vs.length := by rw [r1]; simp
  rw [← hl] at g
  exact own_by (fun t kk => X.arraylength hx (by rw [eT]; exact A1.1) (State.isArrayOf_alike hZ.alike A1.2.1) (g := mkF m pc Ls (.ref a :: rest)) rfl rfl hd _ kk) g
theorem own_Arr.nostat {a : Addr} {ty : FieldType} {vs : List Value} (F : own_Arr Z h a ty vs) : ∀ cell : Cell, h[a]? = some cell → cell.vm.isStatics = false := by obtain ⟨c, A, -⟩ := F; exact A.nostat
theorem own_exa_arr {a b : Addr} {C : String} {kk : Nat} {ty : FieldType} {vs : List Value} (F : Exa Z h a C) (wi : (Cond.instantiable C kk).before a0 Z = true) (G : own_Arr Z h b ty vs) : a ≠ b := by
  obtain ⟨c, A, -⟩ := G
  exact ne_arr F wi A
theorem own_Arr.len {a : Addr} {ty : FieldType} {vs : List Value} (F : own_Arr Z h a ty vs) : vs.length < 2 ^ 31 := by obtain ⟨c, -, -, q, -⟩ := F; exact q
theorem own_getD {vs : List Value} {i : Nat} (hi : i < vs.length) (d : Value) : vs.getD i d = vs[i] := by simp [List.getD, hi]
theorem own_Arr.arv {a : Addr} {ty : FieldType} {vs : List Value} (F : own_Arr Z h a ty vs) (dv : Value) : ∃ kk, Arv Z h a kk ty vs.length.toInt32 vs dv := by
  obtain ⟨cl, A, r1, r2, r3⟩ := F
  have e1 : vs.length.toInt32.toInt = vs.length := len_toInt r2
  have e2 := own_idx e1
  have hs : cl.slots.size = vs.length := by rw [r1]; simp
  refine ⟨cl.cls, cl, A, rfl, by rw [hs, e2.1], e2.2, fun i hi => ?_, fun i hi => ?_⟩
  · rw [hs] at hi
    rw [own_getD hi, r1]; simp [hi]
  · rw [hs] at hi
    rw [own_getD hi]; exact r3 _ (List.getElem_mem hi)
theorem own_Arr.of_arv {a : Addr} {kk : ClassId} {ty : FieldType} {z : Int32} {vs : List Value} {dv : Value} (F : Arv Z h a kk ty z vs dv) (hl : z.toNatClampNeg = vs.length) : own_Arr Z h a ty vs := by
  obtain ⟨cl, A, -, q1, q2, H, G⟩ := F
  have hs : cl.slots.size = vs.length := q1.trans hl
  refine ⟨cl, A, ?_, ?_, fun v hv => ?_⟩
  · apply Array.ext'
    apply List.ext_getElem?
    intro i
    by_cases hi : i < vs.length
    · have := H i (by rw [hs]; exact hi)
      rw [own_getD hi] at this
      have q2 : (vs.toArray.toList)[i]? = some vs[i] := by simp [hi]
      rw [q2, Array.getElem?_toList]
      exact this
    · have h1 : cl.slots.toList[i]? = none := by rw [List.getElem?_eq_none_iff]; simp; omega
      have h2 : (vs.toArray.toList)[i]? = none := by rw [List.getElem?_eq_none_iff]; simp; omega
      rw [h1, h2]
  · rw [← hl]
    have := z.toInt_lt
    show z.toInt.toNat < 2 ^ 31
    omega
  · obtain ⟨i, hi, rfl⟩ := List.getElem_of_mem hv
    have := G i (by rw [hs]; exact hi)
    rwa [own_getD hi] at this
end OwnArr
section OwnList
/-- the list us written from the place i on -/
def own_put (vs : List Value) : Nat → List Int32 → List Value
  | _, [] => vs
  | i, u :: us => own_put (vs.set i (.int u)) (i + 1) us
theorem own_put_len : ∀ (us : List Int32) (vs : List Value) (i : Nat), (own_put vs i us).length = vs.length
  | [], vs, i => rfl
  | u :: us, vs, i => by rw [own_put, own_put_len us]; simp
/-- from the place i on the array holds xs -/
def own_At (vs : List Value) : Nat → List Int32 → Prop
  | _, [] => True
  | i, x :: xs => vs[i]? = some (.int x) ∧ own_At vs (i + 1) xs
theorem own_At_app : ∀ (xs ys : List Int32) (vs : List Value) (i : Nat), own_At vs i xs → own_At vs (i + xs.length) ys → own_At vs i (xs ++ ys)
  | [], ys, vs, i, _, h => by simpa using h
  | x :: xs, ys, vs, i, h, h' => by
    have e : i + 1 + xs.length = i + (x :: xs).length := by
      simp; omega
    exact ⟨h.1, own_At_app xs ys vs (i + 1) h.2 (by rw [e]; exact h')⟩
theorem own_put_lo : ∀ (us : List Int32) (vs : List Value) (i j : Nat), j < i → (own_put vs i us)[j]? = vs[j]?
  | [], vs, i, j, _ => rfl
  | u :: us, vs, i, j, h => by rw [own_put, own_put_lo us _ _ _ (by omega), List.getElem?_set_ne (by omega)]
theorem own_put_At : ∀ (us : List Int32) (vs : List Value) (i : Nat), i + us.length ≤ vs.length → own_At (own_put vs i us) i us
  | [], vs, i, _ => trivial
  | u :: us, vs, i, h => by
    have h' : i + 1 + us.length ≤ vs.length := by simp at h; omega
    refine ⟨?_, own_put_At us _ (i + 1) (by simpa using h')⟩
    rw [own_put, own_put_lo us _ _ _ (by omega)]
    have hi : i < vs.length := by simp at h; omega
    simp [hi]
theorem own_inc {x : Int32} {i : Nat} (h : x.toInt = (i : Int)) (hi : i + 1 < 2 ^ 31) : (x + 1).toInt = ((i + 1 : Nat) : Int) := by
  have k : (1 : Int32).toInt = 1 := by decide
  have e : (x + 1).toInt = x.toInt + (1 : Int32).toInt := Jvm.Kit.i32_add (by omega) (by omega)
  rw [e, h, k]; omega
theorem own_nlt {x y : Int32} {i j : Nat} (hx : x.toInt = (i : Int)) (hy : y.toInt = (j : Int)) (q : j ≤ i) : ¬ x < y := by rw [Int32.lt_iff_toInt_lt]; omega
theorem own_ilt {x y : Int32} {i j : Nat} (hx : x.toInt = (i : Int)) (hy : y.toInt = (j : Int)) (q : i < j) : x < y := by rw [Int32.lt_iff_toInt_lt]; omega
end OwnList
section OwnRef
variable {p : Program} {l : Launch} {e : Env} {R : Room} {s : State} {m : MethodId} {args : Array Value} {below : List Frame} {meth : Method} {c : Code} {T T' : State} {locs : List Loc} {cells slots : Nat} {Fin : Outcome → State → Prop} {Z : State} {a0 : Array Value} {h h' : Heap} {pc : Nat} {Ls : Array Slot} {rest : List Value} {ws : List Addr} {a b : Addr} {C : String} {sl : Nat} {v : Value} {ty ty' : FieldType} {vs ws' : List Value}
/-- the array at a takes what the class C takes -/
def own_Ovr (Z : State) (h : Heap) (a : Addr) (C : String) : Prop := ∃ (cl : Cell) (k : Class) (comp : ClassId) (t : FieldType), h[a]? = some cl ∧ Z.vm.classes[cl.cls]? = some k ∧ k.kind = .array comp t ∧ Z.vm.findClass C = some comp
theorem own_Ovr.ext (F : own_Ovr Z h a C) (E : Ext h h') : own_Ovr Z h' a C := by obtain ⟨cl, k, cp, t, h1, r⟩ := F; exact ⟨cl, k, cp, t, E.2 _ _ h1, r⟩
theorem own_Ovr.wr (F : own_Ovr Z h a C) (W : Wr h h' b sl v) : own_Ovr Z h' a C := by
  obtain ⟨cl, k, cp, t, h1, h2, r⟩ := F
  obtain ⟨d, a1, a2, -⟩ := wr_at W h1
  exact ⟨d, k, cp, t, a1, by rw [a2]; exact h2, r⟩
theorem own_Ovr.keep (F : own_Ovr Z h a C) (K : Keep h h' ws) : own_Ovr Z h' a C := by
  obtain ⟨cl, k, cp, t, h1, h2, r⟩ := F
  obtain ⟨d, q, r1, -⟩ := K.2.2 a cl h1
  exact ⟨d, k, cp, t, q, by rw [r1]; exact h2, r⟩
theorem own_Ovr.sto {y : Addr} (F : own_Ovr Z h a C) (I : Ins Z h y C true) : Sto Z h a (.ref y) := by
  obtain ⟨cl, k, comp, t, h1, o1, o2, o3⟩ := F
  obtain ⟨cv, cT, i1, i2, i3⟩ := I
  cases o3.symm.trans i2
  simp only [Bool.and_eq_true, Bool.not_eq_true'] at i3
  obtain ⟨kc, q⟩ := Vm.classAt_of_findClass o3
  obtain ⟨kv, q2⟩ := Vm.classAt_of_assignable i3.2 ⟨kc, q⟩
  exact Or.inr ⟨cl, cv, k, kv, kc, _, _, y, h1, o1, o2, q, rfl, i1, i3.1, q2, i3.2⟩
theorem own_Arr.ne (F : own_Arr Z h a ty vs) (G : own_Arr Z h b ty' ws') (q : ty ≠ ty') : a ≠ b := by
  intro e; subst e
  obtain ⟨c1, A1, -⟩ := F
  obtain ⟨c2, A2, -⟩ := G
  cases A1.1.symm.trans A2.1
  obtain ⟨-, k1, z1, p1, x1⟩ := A1.2.1
  obtain ⟨-, k2, z2, p2, x2⟩ := A2.2.1
  cases z1.symm.trans z2
  have e := x1.symm.trans x2
  injection e with e1 e2
  exact q e2
theorem own_newRA (X : Stand p l e R s m args below meth c T locs cells slots) (hx : p.tables.exec = Jvm.exec) (hZ : Z.Warmed39 s.vm) {own : String} {index : Nat} (hown : s.vm.findClass own = some m.cls) (hC : (FieldType.array ty).toString = C) (w1 : (Cond.classLink own index C).before a0 Z = true) (w2 : (Cond.arrayOver (.array ty)).before a0 Z = true)
    (eT : T.heap = h) (hd : decode c.code pc = .ok (.anewarray index, 3)) {j : Int32} (i cap : Nat) (hj : j.toInt = (i : Int)) (hcap : i ≤ cap) (hb : cap * 8 ≤ 536870912) (hc : cells + 1 ≤ R.cells) (hl : slots + cap ≤ R.slots) {ad : String} (had : "[" ++ C = ad)
    (g : ∀ T' h' (b : Addr), Stand p l e R s m args below meth c T' locs (cells + 1) (slots + cap) → T'.heap = h' → b = h.size → Ext h h' → own_Arr Z h' b (.array ty) (List.replicate i .null) → Exa Z h' b ad → own_Ovr Z h' b C → own_Go p e below Fin T' (mkF m (pc + 3) Ls (.ref b :: rest))) : own_Go p e below Fin T (mkF m pc Ls (.int j :: rest)) := by
  obtain ⟨q1, q2⟩ := own_idx hj
  obtain ⟨T', h', cA, X', e', E', A', Ex', O', st⟩ := newRA X hx hZ hown hC w1 w2 eT (g := mkF m pc Ls (.int j :: rest)) rfl hd rfl q2 (cap := cap) (by rw [q1]; exact hcap) hb hc hl had
  refine own_by (fun t kk => st _ kk) (g T' h' _ X' e' rfl E' (own_Arr.new A' hj) Ex' ?_)
  obtain ⟨k, comp, o1, o2, o3⟩ := O'
  exact ⟨_, k, comp, _, A'.1, o1, o2, o3⟩
theorem own_newRO (X : Stand p l e R s m args below meth c T locs cells slots) (hx : p.tables.exec = Jvm.exec) (hZ : Z.Warmed39 s.vm) {own : String} {index : Nat} (hown : s.vm.findClass own = some m.cls) (w1 : (Cond.classLink own index C).before a0 Z = true) (w2 : (Cond.arrayOver (.object C)).before a0 Z = true)
    (eT : T.heap = h) (hd : decode c.code pc = .ok (.anewarray index, 3)) {j : Int32} (i cap : Nat) (hj : j.toInt = (i : Int)) (hcap : i ≤ cap) (hb : cap * 8 ≤ 536870912) (hc : cells + 1 ≤ R.cells) (hl : slots + cap ≤ R.slots) {ad : String} (had : "[" ++ (FieldType.object C).toString = ad)
    (g : ∀ T' h' (b : Addr), Stand p l e R s m args below meth c T' locs (cells + 1) (slots + cap) → T'.heap = h' → b = h.size → Ext h h' → own_Arr Z h' b (.object C) (List.replicate i .null) → Exa Z h' b ad → own_Ovr Z h' b C → own_Go p e below Fin T' (mkF m (pc + 3) Ls (.ref b :: rest))) : own_Go p e below Fin T (mkF m pc Ls (.int j :: rest)) := by
  obtain ⟨q1, q2⟩ := own_idx hj
  obtain ⟨T', h', cA, X', e', E', A', Ex', O', st⟩ := newRE X hx hZ hown w1 w2 eT (g := mkF m pc Ls (.int j :: rest)) rfl hd rfl q2 (cap := cap) (by rw [q1]; exact hcap) hb hc hl had
  refine own_by (fun t kk => st _ kk) (g T' h' _ X' e' rfl E' (own_Arr.new A' hj) Ex' ?_)
  obtain ⟨k, comp, o1, o2, o3⟩ := O'
  exact ⟨_, k, comp, _, A'.1, o1, o2, o3⟩
theorem own_newPE (X : Stand p l e R s m args below meth c T locs cells slots) (hx : p.tables.exec = Jvm.exec) (hZ : Z.Warmed39 s.vm) {aty : ArrayType} (w : (Cond.arrayClass (newarray.typeOf aty)).before a0 Z = true) (eT : T.heap = h) (hd : decode c.code pc = .ok (.newarray aty, 2)) {j : Int32} (i cap : Nat) (hj : j.toInt = (i : Int)) (hcap : i ≤ cap) (hb : cap * 8 ≤ 536870912) (hc : cells + 1 ≤ R.cells) (hl : slots + cap ≤ R.slots) {ad : String} (had : "[" ++ (newarray.typeOf aty).toString = ad)
    (g : ∀ T' h' (b : Addr), Stand p l e R s m args below meth c T' locs (cells + 1) (slots + cap) → T'.heap = h' → b = h.size → Ext h h' → own_Arr Z h' b (newarray.typeOf aty) (List.replicate i (defaultValue (newarray.typeOf aty))) → Exa Z h' b ad → own_Go p e below Fin T' (mkF m (pc + 2) Ls (.ref b :: rest))) : own_Go p e below Fin T (mkF m pc Ls (.int j :: rest)) := by
  obtain ⟨q1, q2⟩ := own_idx hj
  obtain ⟨T', h', cA, X', e', E', A', Ex', st⟩ := newPE X hx hZ w eT (g := mkF m pc Ls (.int j :: rest)) rfl hd rfl q2 (cap := cap) (by rw [q1]; exact hcap) hb hc hl had
  exact own_by (fun t kk => st _ kk) (g T' h' _ X' e' rfl E' (own_Arr.new A' hj) Ex')
theorem own_aaload (X : Stand p l e R s m args below meth c T locs cells slots) (hx : p.tables.exec = Jvm.exec) (hZ : Z.Warmed39 s.vm) (eT : T.heap = h) (A : own_Arr Z h a ty vs) (hty : ty.isReference = true) {j : Int32} {v : Value} (i : Nat) (hj : j.toInt = (i : Int)) (hv : vs[i]? = some v) (hd : decode c.code pc = .ok (.aaload, 1))
    (g : own_Go p e below Fin T (mkF m (pc + 1) Ls (v :: rest))) : own_Go p e below Fin T (mkF m pc Ls (.int j :: .ref a :: rest)) := by
  obtain ⟨cl, A1, r1, r2⟩ := A
  exact own_by (fun t kk => X.aaload hx (j := j) (v := v) (by rw [eT]; exact A1.1) (State.isArrayOf_alike hZ.alike A1.2.1) hty A1.2.2 (own_inb hj r1 (own_lt_of hv)) (by rw [(own_idx hj).1, r1]; simpa using hv) (g := mkF m pc Ls (.int j :: .ref a :: rest)) rfl rfl hd _ kk) g
theorem own_aastore (X : Stand p l e R s m args below meth c T locs cells slots) (hx : p.tables.exec = Jvm.exec) (hZ : Z.Warmed39 s.vm) (eT : T.heap = h) (A : own_Arr Z h a ty vs) (hty : ty.isReference = true) (F : Sto Z h a v) (hfit : fits ty v = true) {j : Int32} (i : Nat) (hj : j.toInt = (i : Int)) (hi : i < vs.length) (hd : decode c.code pc = .ok (.aastore, 1))
    (g : ∀ T' h', Stand p l e R s m args below meth c T' (locs ++ [⟨a, i⟩]) cells slots → T'.heap = h' → Wr h h' a i v → own_Arr Z h' a ty (vs.set i v) → own_Go p e below Fin T' (mkF m (pc + 1) Ls rest)) : own_Go p e below Fin T (mkF m pc Ls (v :: .int j :: .ref a :: rest)) := by
  have A' := A
  obtain ⟨cl, A1, r1, r2⟩ := A
  obtain ⟨T', h', X', e', W', st⟩ := stR X hx hZ eT A1 (own_inb hj r1 hi) hty F (g := mkF m pc Ls (v :: .int j :: .ref a :: rest)) rfl rfl hd
  rw [(own_idx hj).1] at X' W'
  exact own_by (fun t kk => st _ kk) (g T' h' X' e' W' (A'.set W' hfit))
theorem own_alenK (X : Stand p l e R s m args below meth c T locs cells slots) (hx : p.tables.exec = Jvm.exec) (hZ : Z.Warmed39 s.vm) (eT : T.heap = h) (A : own_Arr Z h a ty vs) {j : Int32} (i : Nat) (hi : vs.length = i) (hj : i.toInt32 = j) (hd : decode c.code pc = .ok (.arraylength, 1))
    (g : own_Go p e below Fin T (mkF m (pc + 1) Ls (.int j :: rest))) : own_Go p e below Fin T (mkF m pc Ls (.ref a :: rest)) := by
  subst hj; subst hi
  exact own_alen X hx hZ eT A hd g
end OwnRef
section OwnCopy
variable {p : Program} {l : Launch} {e : Env} {R : Room} {s : State} {m : MethodId} {args : Array Value} {below : List Frame} {meth : Method} {c : Code} {T T' : State} {locs : List Loc} {cells slots : Nat} {Fin : Outcome → State → Prop} {Z : State} {a0 : Array Value} {h h' : Heap} {pc n0 : Nat} {Ls : Array Slot} {rest : List Value}
theorem own_us {vs : List Value} {k n : Nat} (d : Value) (hk : k + n ≤ vs.length) : (List.range n).map (fun i => vs.getD (k + i) d) = (vs.drop k).take n := by
  apply List.ext_getElem
  · simp; omega
  · intro i h1 h2
    have hi : i < n := by simpa using h1
    have hi' : k + i < vs.length := by omega
    simp [List.getD, hi']
theorem own_cpA (X : Stand p l e R s m args below meth c T locs cells slots) (hx : p.tables.exec = Jvm.exec) (hZ : Z.Warmed39 s.vm) {own : String} {index : Nat} (hown : s.vm.findClass own = some m.cls)
    (w1 : (Cond.methodLink own index Jvm.Stand.acN).before a0 Z = true) (w2 : (Cond.native Jvm.Stand.acN).before a0 Z = true) (w3 : (Cond.static Jvm.Stand.acN).before a0 Z = true) (w4 : (Cond.initialized "java/lang/System").before a0 Z = true) (eT : T.heap = h)
    {a b : Addr} {ty : FieldType} {vs vd : List Value} (A : own_Arr Z h a ty vs) (B : own_Arr Z h b ty vd) (hty : refKind ty = false) {sp dp nn : Int32} (si di ni : Nat) (hsp : sp.toInt = (si : Int)) (hdp : dp.toInt = (di : Int)) (hnn : nn.toInt = (ni : Int)) (h4 : si + ni ≤ vs.length) (h5 : di + ni ≤ vd.length) (N : Fr n0 locs) (ge : n0 ≤ b)
    (hml : Ls.size = c.maxLocals) (hd : decode c.code pc = .ok (.invokestatic index, 3)) (hf : 1 ≤ R.frames) {W : Nat} (hW : (rest.map fun v => v.category).sum ≤ W) (hlo : W + (nativeFrameWords "java/lang/System" "arraycopy" 5 + 11) ≤ R.locals)
    (g : ∀ T' h' L, Stand p l e R s m args below meth c T' L cells slots → T'.heap = h' → Fr n0 L → Keep h h' [b] → own_Arr Z h' b ty (vd.take di ++ (vs.drop si).take ni ++ vd.drop (di + ni)) → own_Go p e below Fin T' (mkF m (pc + 3) Ls rest)) :
    own_Go p e below Fin T (mkF m pc Ls (.int nn :: .int dp :: .ref b :: .int sp :: .ref a :: rest)) := by
  obtain ⟨k1, A'⟩ := A.arv .null
  obtain ⟨k2, B'⟩ := B.arv .null
  have la : vs.length.toInt32.toNatClampNeg = vs.length := (own_idx (len_toInt A.len)).1
  have lb : vd.length.toInt32.toNatClampNeg = vd.length := (own_idx (len_toInt B.len)).1
  obtain ⟨s1, s2⟩ := own_idx hsp
  obtain ⟨d1, d2⟩ := own_idx hdp
  obtain ⟨n1, n2⟩ := own_idx hnn
  obtain ⟨T', h', L, X', e', N', K', V', st⟩ := cpA X hx hZ hown w1 w2 w3 w4 eT A' B' (Or.inl ⟨rfl, hty⟩) (sp := sp) (dp := dp) (nn := nn) s2 d2 n2 (by rw [s1, n1, la]; exact h4) (by rw [d1, n1, lb]; exact h5) rfl (by rw [d1, n1]; exact h5) N ge (g := mkF m pc Ls (.int nn :: .int dp :: .ref b :: .int sp :: .ref a :: rest)) rfl hml rfl hd hf (W := W) (by show 2 * 0 + _ ≤ _; omega) hlo
  rw [d1, n1, s1, own_us _ h4] at V'
  refine own_by (fun t kk => st _ kk) (g T' h' L X' e' N' K' (own_Arr.of_arv V' ?_))
  rw [lb]; simp; omega
theorem own_daload (X : Stand p l e R s m args below meth c T locs cells slots) (hx : p.tables.exec = Jvm.exec) (hZ : Z.Warmed39 s.vm) (eT : T.heap = h) {a : Addr} {vs : List Value} (A : own_Arr Z h a .double vs) {j : Int32} {v : Value} (i : Nat) (hj : j.toInt = (i : Int)) (hv : vs[i]? = some v) (hd : decode c.code pc = .ok (.daload, 1))
    (g : own_Go p e below Fin T (mkF m (pc + 1) Ls (v :: rest))) : own_Go p e below Fin T (mkF m pc Ls (.int j :: .ref a :: rest)) := by
  obtain ⟨cl, A1, r1, r2⟩ := A
  exact own_by (fun t kk => X.daload hx (j := j) (v := v) (by rw [eT]; exact A1.1) (State.isArrayOf_alike hZ.alike A1.2.1) A1.2.2 (own_inb hj r1 (own_lt_of hv)) (by rw [(own_idx hj).1, r1]; simpa using hv) (g := mkF m pc Ls (.int j :: .ref a :: rest)) rfl rfl hd _ kk) g
theorem own_dastore (X : Stand p l e R s m args below meth c T locs cells slots) (hx : p.tables.exec = Jvm.exec) (hZ : Z.Warmed39 s.vm) (eT : T.heap = h) {a : Addr} {vs : List Value} (A : own_Arr Z h a .double vs) {j : Int32} {x : UInt64} (i : Nat) (hj : j.toInt = (i : Int)) (hi : i < vs.length) (hd : decode c.code pc = .ok (.dastore, 1))
    (g : ∀ T' h', Stand p l e R s m args below meth c T' (locs ++ [⟨a, i⟩]) cells slots → T'.heap = h' → Wr h h' a i (.double x) → own_Arr Z h' a .double (vs.set i (.double x)) → own_Go p e below Fin T' (mkF m (pc + 1) Ls rest)) : own_Go p e below Fin T (mkF m pc Ls (.double x :: .int j :: .ref a :: rest)) := by
  have A' := A
  obtain ⟨cl, A1, r1, r2⟩ := A
  obtain ⟨T', h', X', e', W', st⟩ := stD X hx hZ eT A1 (own_inb hj r1 hi) (g := mkF m pc Ls (.double x :: .int j :: .ref a :: rest)) rfl rfl hd
  rw [(own_idx hj).1] at X' W'
  exact own_by (fun t kk => st _ kk) (g T' h' X' e' W' (A'.set W' rfl))
end OwnCopy
section OwnUp
variable {p : Program} {l : Launch} {e : Env} {R : Room} {s : State} {m : MethodId} {args : Array Value} {below : List Frame} {meth : Method} {c : Code} {T T' : State} {locs : List Loc} {cells slots : Nat} {Fin : Outcome → State → Prop} {Z : State} {a0 : Array Value} {h : Heap} {pc n0 : Nat} {Ls : Array Slot} {rest : List Value}
/-- an instance method that a class above the named one declares, by its contract -/
theorem own_callVU (X : Stand p l e R s m args below meth c T locs cells slots) (hx : p.tables.exec = Jvm.exec) (hZ : Z.Warmed39 s.vm) {own C owner : String} {index : Nat} {y z : MethodName} {bytes : ByteArray} {maxL W : Nat} {ret : Option FieldType} {rm : Room} {Qc : Option Value → Heap → List Loc → Prop}
    (hown : s.vm.findClass own = some m.cls) (w1 : (Cond.methodLink own index y).before a0 Z = true) (wsm : (Cond.sameMethod y.cls owner y.name y.desc).before a0 Z = true) (hsm : ((Cond.sameMethod y.cls owner y.name y.desc).onTables && (Cond.sameMethod y.cls owner y.name y.desc).keepsFace) = true) (wd : (Cond.declares ⟨owner, y.name, y.desc⟩).before a0 Z = true) (ws : (Cond.selects C y z).before a0 Z = true) (w2 : (Cond.instanceMethod z).before a0 Z = true) (w3 : (Cond.initialized z.cls).before a0 Z = true) (w4 : (Cond.code z bytes maxL ret).before a0 Z = true)
    (hy : owner ≠ "java/lang/invoke/MethodHandle" ∧ owner ≠ "java/lang/invoke/VarHandle") (hml : Ls.size = c.maxLocals) {a : Addr} {argsL : List Value} {ps : List FieldType} {rt : Option FieldType} (pd : parseMethodDescriptor y.desc = some ⟨ps, rt⟩) (hlen : argsL.length = ps.length)
    (eT : T.heap = h) (E : Exa Z h a C)
    (hM : MetFree l z (head1 [Cond.code z bytes maxL ret] rm) (fun b U => b = (.ref a :: argsL).toArray ∧ Z.Warmed39 U.vm ∧ U.heap = h) (fun _ _ _ _ _ => True) (fun _ U o U' => ∃ v L, o = .returned v ∧ Qc v U'.heap L ∧ FrameEnd U o U' L rm.cells rm.slots))
    (hf : rm.frames + 1 ≤ R.frames) (hl : W + (maxL + 11) + rm.locals ≤ R.locals) (hW : (rest.map fun v => v.category).sum ≤ W) (hc : cells + rm.cells ≤ R.cells) (hs : slots + rm.slots ≤ R.slots) {st : List Value} (hst : st = argsL.reverse ++ .ref a :: rest) (hd : decode c.code pc = .ok (.invokevirtual index, 3))
    (g : ∀ (v : Option Value) (T' : State) (L : List Loc), Stand p l e R s m args below meth c T' (locs ++ L) (cells + rm.cells) (slots + rm.slots) → Qc v T'.heap L → own_Go p e below Fin T' (mkF m (pc + 3) Ls (v.toList ++ rest))) :
    own_Go p e below Fin T (mkF m pc Ls st) := by
  subst hst
  obtain ⟨cq, kq, qa, qb, qc⟩ := isOf hZ eT E
  obtain ⟨v, _, ⟨T2, L2, k2, n2⟩, -, X2, ⟨Lc2, hQ2, l2, y2, z2⟩, st2⟩ := X.virtualBackUp hx (x := y) (y := z) hown (mvT hZ w1) (mvT hZ wsm hsm) (mvT hZ wd) hy (mvT hZ ws) (mvT hZ w2) (backOf (W := W) hM hZ w4 w3 hf hl) qa qc (g := (mkF m pc Ls (argsL.reverse ++ .ref a :: rest))) rfl hml (Steps.refl _) (argsL := argsL) (rest := rest) (lenOf pd hlen) rfl (by show 2 * 0 + _ ≤ _; omega) hd (fun _ _ => ⟨rfl, eT, hc, hs⟩)
  dsimp only [Pt.U, Pt.locs, Pt.cells, Pt.slots] at X2 l2 y2 z2 st2 hQ2
  subst l2 y2 z2
  exact own_by (fun t kk => st2.trans kk) (g v T2 Lc2 X2 hQ2)
theorem own_stoL {Z : State} {h : Heap} {b : Addr} : ∀ (us : List Value), (∀ v ∈ us, Sto Z h b v) → StoL Z h b us
  | [], _ => trivial
  | u :: us, H => ⟨H u (List.mem_cons_self ..), own_stoL us fun v hv => H v (List.mem_cons_of_mem _ hv)⟩
/-- arraycopy of references -/
theorem own_cpR (X : Stand p l e R s m args below meth c T locs cells slots) (hx : p.tables.exec = Jvm.exec) (hZ : Z.Warmed39 s.vm) {own : String} {index : Nat} (hown : s.vm.findClass own = some m.cls)
    (w1 : (Cond.methodLink own index Jvm.Stand.acN).before a0 Z = true) (w2 : (Cond.native Jvm.Stand.acN).before a0 Z = true) (w3 : (Cond.static Jvm.Stand.acN).before a0 Z = true) (w4 : (Cond.initialized "java/lang/System").before a0 Z = true) (eT : T.heap = h)
    {a b : Addr} {ty : FieldType} {vs vd : List Value} (A : own_Arr Z h a ty vs) (B : own_Arr Z h b ty vd) (hty : refKind ty = true) {sp dp nn : Int32} (si di ni : Nat) (hsp : sp.toInt = (si : Int)) (hdp : dp.toInt = (di : Int)) (hnn : nn.toInt = (ni : Int)) (h4 : si + ni ≤ vs.length) (h5 : di + ni ≤ vd.length) (hS : ∀ v ∈ (vs.drop si).take ni, Sto Z h b v) (N : Fr n0 locs) (ge : n0 ≤ b)
    (hml : Ls.size = c.maxLocals) (hd : decode c.code pc = .ok (.invokestatic index, 3)) (hf : 1 ≤ R.frames) {W : Nat} (hW : (rest.map fun v => v.category).sum ≤ W) (hlo : W + (nativeFrameWords "java/lang/System" "arraycopy" 5 + 11) ≤ R.locals)
    (g : ∀ T' h' L, Stand p l e R s m args below meth c T' L cells slots → T'.heap = h' → Fr n0 L → Keep h h' [b] → own_Arr Z h' b ty (vd.take di ++ (vs.drop si).take ni ++ vd.drop (di + ni)) → own_Go p e below Fin T' (mkF m (pc + 3) Ls rest)) :
    own_Go p e below Fin T (mkF m pc Ls (.int nn :: .int dp :: .ref b :: .int sp :: .ref a :: rest)) := by
  obtain ⟨k1, A'⟩ := A.arv .null
  obtain ⟨k2, B'⟩ := B.arv .null
  have la : vs.length.toInt32.toNatClampNeg = vs.length := (own_idx (len_toInt A.len)).1
  have lb : vd.length.toInt32.toNatClampNeg = vd.length := (own_idx (len_toInt B.len)).1
  obtain ⟨s1, s2⟩ := own_idx hsp
  obtain ⟨d1, d2⟩ := own_idx hdp
  obtain ⟨n1, n2⟩ := own_idx hnn
  obtain ⟨T', h', L, X', e', N', K', V', st⟩ := cpA X hx hZ hown w1 w2 w3 w4 eT A' B' (Or.inr ⟨hty, hty, own_stoL ((vs.drop si).take ni) hS⟩) (sp := sp) (dp := dp) (nn := nn) s2 d2 n2 (by rw [s1, n1, la]; exact h4) (by rw [d1, n1, lb]; exact h5) (by rw [n1, s1, own_us _ h4]) (by rw [d1, n1]; exact h5) N ge (g := mkF m pc Ls (.int nn :: .int dp :: .ref b :: .int sp :: .ref a :: rest)) rfl hml rfl hd hf (W := W) (by show 2 * 0 + _ ≤ _; omega) hlo
  rw [d1, n1] at V'
  refine own_by (fun t kk => st _ kk) (g T' h' L X' e' N' K' (own_Arr.of_arv V' ?_))
  rw [lb]; simp; omega
end OwnUp
theorem pn_6 : plainName "com/example/hedgewalk/hedgewalk/eval/Verdict" = true := by first | (simp [plainName, overriddenIn]; done) | decide +kernel
theorem d20_0 : decode prog_78_method_8_code 0 = .ok (.aload_n 0, 1) := by decide +kernel
theorem d20_1 : decode prog_78_method_8_code 1 = .ok (.getfield 12, 3) := by decide +kernel
theorem d20_4 : decode prog_78_method_8_code 4 = .ok (.getstatic 57, 3) := by decide +kernel
theorem d20_7 : decode prog_78_method_8_code 7 = .ok (.if_acmp .eq 17, 3) := by decide +kernel
theorem d20_10 : decode prog_78_method_8_code 10 = .ok (.aload_n 0, 1) := by decide +kernel
theorem d20_11 : decode prog_78_method_8_code 11 = .ok (.getfield 12, 3) := by decide +kernel
theorem d20_14 : decode prog_78_method_8_code 14 = .ok (.getstatic 60, 3) := by decide +kernel
theorem d20_17 : decode prog_78_method_8_code 17 = .ok (.if_acmp .eq 7, 3) := by decide +kernel
theorem d20_20 : decode prog_78_method_8_code 20 = .ok (.iconst 1, 1) := by decide +kernel
theorem d20_21 : decode prog_78_method_8_code 21 = .ok (.goto 4, 3) := by decide +kernel
theorem d20_25 : decode prog_78_method_8_code 25 = .ok (.ireturn, 1) := by decide +kernel
theorem d20_24 : decode prog_78_method_8_code 24 = .ok (.iconst 0, 1) := by decide +kernel
theorem d19_0 : decode prog_78_method_12_code 0 = .ok (.aconst_null, 1) := by decide +kernel
theorem d19_1 : decode prog_78_method_12_code 1 = .ok (.astore_n 2, 1) := by decide +kernel
theorem d19_2 : decode prog_78_method_12_code 2 = .ok (.aload_n 0, 1) := by decide +kernel
theorem d19_3 : decode prog_78_method_12_code 3 = .ok (.invokevirtual 63, 3) := by decide +kernel
theorem pd_2 : parseMethodDescriptor "()Z" = some ⟨[], some .boolean⟩ := by decide +kernel
theorem d19_6 : decode prog_78_method_12_code 6 = .ok (.ifCond .eq 25, 3) := by decide +kernel
theorem d19_9 : decode prog_78_method_12_code 9 = .ok (.aload_n 0, 1) := by decide +kernel
theorem d19_10 : decode prog_78_method_12_code 10 = .ok (.getfield 12, 3) := by decide +kernel
theorem d19_13 : decode prog_78_method_12_code 13 = .ok (.astore_n 2, 1) := by decide +kernel
theorem d19_14 : decode prog_78_method_12_code 14 = .ok (.aload_n 0, 1) := by decide +kernel
theorem d19_15 : decode prog_78_method_12_code 15 = .ok (.iload_n 1, 1) := by decide +kernel
theorem d19_16 : decode prog_78_method_12_code 16 = .ok (.ifCond .eq 9, 3) := by decide +kernel
theorem d19_25 : decode prog_78_method_12_code 25 = .ok (.getstatic 60, 3) := by decide +kernel
theorem d19_28 : decode prog_78_method_12_code 28 = .ok (.putfield 12, 3) := by decide +kernel
theorem d19_31 : decode prog_78_method_12_code 31 = .ok (.aload_n 2, 1) := by decide +kernel
theorem d19_32 : decode prog_78_method_12_code 32 = .ok (.areturn, 1) := by decide +kernel
theorem d19_19 : decode prog_78_method_12_code 19 = .ok (.getstatic 57, 3) := by decide +kernel
theorem d19_22 : decode prog_78_method_12_code 22 = .ok (.goto 6, 3) := by decide +kernel
theorem pn_1 : plainName "com/example/hedgewalk/hedgewalk/eval/Agenda" = true := by first | (simp [plainName, overriddenIn]; done) | decide +kernel
theorem d18_0 : decode prog_29_method_2_code 0 = .ok (.aload_n 1, 1) := by decide +kernel
theorem d18_1 : decode prog_29_method_2_code 1 = .ok (.iload_n 2, 1) := by decide +kernel
theorem d18_2 : decode prog_29_method_2_code 2 = .ok (.invokevirtual 19, 3) := by decide +kernel
theorem pd_12 : parseMethodDescriptor "(Z)Ljava/lang/Object;" = some ⟨[.boolean], some (.object "java/lang/Object")⟩ := by decide +kernel
theorem d18_5 : decode prog_29_method_2_code 5 = .ok (.astore_n 3, 1) := by decide +kernel
theorem d18_6 : decode prog_29_method_2_code 6 = .ok (.aload_n 3, 1) := by decide +kernel
theorem d18_7 : decode prog_29_method_2_code 7 = .ok (.ifnull 24, 3) := by decide +kernel
theorem d18_31 : decode prog_29_method_2_code 31 = .ok (.return_, 1) := by decide +kernel
theorem pn_5 : plainName "com/example/hedgewalk/hedgewalk/eval/Verdict$Told" = true := by first | (simp [plainName, overriddenIn]; done) | decide +kernel
theorem d17_0 : decode prog_84_method_2_code 0 = .ok (.aload_n 2, 1) := by decide +kernel
theorem d17_1 : decode prog_84_method_2_code 1 = .ok (.aload_n 0, 1) := by decide +kernel
theorem d17_2 : decode prog_84_method_2_code 2 = .ok (.iload_n 1, 1) := by decide +kernel
theorem d17_3 : decode prog_84_method_2_code 3 = .ok (.invokevirtual 7, 3) := by decide +kernel
theorem pd_11 : parseMethodDescriptor "(Lcom/example/hedgewalk/hedgewalk/eval/Verdict;Z)V" = some ⟨[(.object "com/example/hedgewalk/hedgewalk/eval/Verdict"), .boolean], none⟩ := by decide +kernel
theorem d17_6 : decode prog_84_method_2_code 6 = .ok (.return_, 1) := by decide +kernel
theorem d15_0 : decode jdk_29_method_69_code 0 = .ok (.iload_n 0, 1) := by decide +kernel
theorem d15_1 : decode jdk_29_method_69_code 1 = .ok (.iload_n 1, 1) := by decide +kernel
theorem d15_2 : decode jdk_29_method_69_code 2 = .ok (.if_icmp .gt 7, 3) := by decide +kernel
theorem d15_9 : decode jdk_29_method_69_code 9 = .ok (.iload_n 1, 1) := by decide +kernel
theorem d15_10 : decode jdk_29_method_69_code 10 = .ok (.ireturn, 1) := by decide +kernel
theorem d15_5 : decode jdk_29_method_69_code 5 = .ok (.iload_n 0, 1) := by decide +kernel
theorem d15_6 : decode jdk_29_method_69_code 6 = .ok (.goto 4, 3) := by decide +kernel
theorem pn_0 : plainName "com/example/hedgewalk/hedgewalk/eval/GoalQueueHasOpenPinLaw" = true := by first | (simp [plainName, overriddenIn]; done) | decide +kernel
theorem d10_0 : decode method_2_code 0 = .ok (.iload_n 0, 1) := by decide +kernel
theorem d10_1 : decode method_2_code 1 = .ok (.iconst 1, 1) := by decide +kernel
theorem d10_2 : decode method_2_code 2 = .ok (.iand, 1) := by decide +kernel
theorem d10_3 : decode method_2_code 3 = .ok (.ifCond .eq 5, 3) := by decide +kernel
theorem d10_8 : decode method_2_code 8 = .ok (.lload_n 1, 1) := by decide +kernel
theorem d10_9 : decode method_2_code 9 = .ok (.ldc2_w 7, 3) := by decide +kernel
theorem d10_12 : decode method_2_code 12 = .ok (.lrem, 1) := by decide +kernel
theorem d10_13 : decode method_2_code 13 = .ok (.lreturn, 1) := by decide +kernel
theorem d10_6 : decode method_2_code 6 = .ok (.lload_n 1, 1) := by decide +kernel
theorem d10_7 : decode method_2_code 7 = .ok (.lreturn, 1) := by decide +kernel
theorem pn_4 : plainName "java/util/AbstractCollection" = true := by first | (simp [plainName, overriddenIn]; done) | decide +kernel
theorem d4_0 : decode jdk_22_method_1_code 0 = .ok (.aload_n 0, 1) := by decide +kernel
theorem d4_1 : decode jdk_22_method_1_code 1 = .ok (.invokespecial 1, 3) := by decide +kernel
theorem d4_4 : decode jdk_22_method_1_code 4 = .ok (.return_, 1) := by decide +kernel
theorem pn_3 : plainName "java/util/ArrayDeque" = true := by first | (simp [plainName, overriddenIn]; done) | decide +kernel
theorem d3_0 : decode jdk_21_method_3_code 0 = .ok (.aload_n 0, 1) := by decide +kernel
theorem d3_1 : decode jdk_21_method_3_code 1 = .ok (.invokespecial 42, 3) := by decide +kernel
theorem pd_0 : parseMethodDescriptor "()V" = some ⟨[], none⟩ := by decide +kernel
theorem d3_4 : decode jdk_21_method_3_code 4 = .ok (.aload_n 0, 1) := by decide +kernel
theorem d3_5 : decode jdk_21_method_3_code 5 = .ok (.bipush 17, 2) := by decide +kernel
theorem d3_7 : decode jdk_21_method_3_code 7 = .ok (.anewarray 47, 3) := by decide +kernel
theorem d3_10 : decode jdk_21_method_3_code 10 = .ok (.putfield 3, 3) := by decide +kernel
theorem d3_13 : decode jdk_21_method_3_code 13 = .ok (.return_, 1) := by decide +kernel
theorem d1_0 : decode prog_29_method_1_code 0 = .ok (.aload_n 0, 1) := by decide +kernel
theorem d1_1 : decode prog_29_method_1_code 1 = .ok (.invokespecial 1, 3) := by decide +kernel
theorem d1_4 : decode prog_29_method_1_code 4 = .ok (.aload_n 0, 1) := by decide +kernel
theorem d1_5 : decode prog_29_method_1_code 5 = .ok (.new 7, 3) := by decide +kernel
theorem d1_8 : decode prog_29_method_1_code 8 = .ok (.dup, 1) := by decide +kernel
theorem d1_9 : decode prog_29_method_1_code 9 = .ok (.invokespecial 9, 3) := by decide +kernel
theorem d1_12 : decode prog_29_method_1_code 12 = .ok (.putfield 10, 3) := by decide +kernel
theorem d1_15 : decode prog_29_method_1_code 15 = .ok (.aload_n 0, 1) := by decide +kernel
theorem d1_16 : decode prog_29_method_1_code 16 = .ok (.new 7, 3) := by decide +kernel
theorem d1_19 : decode prog_29_method_1_code 19 = .ok (.dup, 1) := by decide +kernel
theorem d1_20 : decode prog_29_method_1_code 20 = .ok (.invokespecial 9, 3) := by decide +kernel
theorem d1_23 : decode prog_29_method_1_code 23 = .ok (.putfield 16, 3) := by decide +kernel
theorem d1_26 : decode prog_29_method_1_code 26 = .ok (.return_, 1) := by decide +kernel
theorem d7_0 : decode prog_78_method_2_code 0 = .ok (.aload_n 0, 1) := by decide +kernel
theorem d7_1 : decode prog_78_method_2_code 1 = .ok (.invokespecial 7, 3) := by decide +kernel
theorem d7_4 : decode prog_78_method_2_code 4 = .ok (.aload_n 0, 1) := by decide +kernel
theorem d7_5 : decode prog_78_method_2_code 5 = .ok (.aload_n 1, 1) := by decide +kernel
theorem d7_6 : decode prog_78_method_2_code 6 = .ok (.putfield 12, 3) := by decide +kernel
theorem d7_9 : decode prog_78_method_2_code 9 = .ok (.return_, 1) := by decide +kernel
theorem d6_0 : decode prog_78_method_1_code 0 = .ok (.aload_n 0, 1) := by decide +kernel
theorem d6_1 : decode prog_78_method_1_code 1 = .ok (.aconst_null, 1) := by decide +kernel
theorem d6_2 : decode prog_78_method_1_code 2 = .ok (.invokespecial 1, 3) := by decide +kernel
theorem pd_1 : parseMethodDescriptor "(Ljava/lang/Object;)V" = some ⟨[(.object "java/lang/Object")], none⟩ := by decide +kernel
theorem d6_5 : decode prog_78_method_1_code 5 = .ok (.return_, 1) := by decide +kernel
theorem d5_0 : decode prog_84_method_1_code 0 = .ok (.aload_n 0, 1) := by decide +kernel
theorem d5_1 : decode prog_84_method_1_code 1 = .ok (.invokespecial 1, 3) := by decide +kernel
theorem d5_4 : decode prog_84_method_1_code 4 = .ok (.return_, 1) := by decide +kernel
theorem pn_8 : plainName "com/example/hedgewalk/hedgewalk/eval/GoalQueue" = true := by first | (simp [plainName, overriddenIn]; done) | decide +kernel
theorem d8_0 : decode prog_34_method_1_code 0 = .ok (.aload_n 0, 1) := by decide +kernel
theorem d8_1 : decode prog_34_method_1_code 1 = .ok (.invokespecial 1, 3) := by decide +kernel
theorem d8_4 : decode prog_34_method_1_code 4 = .ok (.aload_n 0, 1) := by decide +kernel
theorem d8_5 : decode prog_34_method_1_code 5 = .ok (.iconst 4, 1) := by decide +kernel
theorem d8_6 : decode prog_34_method_1_code 6 = .ok (.newarray .long, 2) := by decide +kernel
theorem d8_8 : decode prog_34_method_1_code 8 = .ok (.putfield 7, 3) := by decide +kernel
theorem d8_11 : decode prog_34_method_1_code 11 = .ok (.aload_n 0, 1) := by decide +kernel
theorem d8_12 : decode prog_34_method_1_code 12 = .ok (.iconst 4, 1) := by decide +kernel
theorem d8_13 : decode prog_34_method_1_code 13 = .ok (.newarray .int, 2) := by decide +kernel
theorem d8_15 : decode prog_34_method_1_code 15 = .ok (.putfield 13, 3) := by decide +kernel
theorem d8_18 : decode prog_34_method_1_code 18 = .ok (.aload_n 0, 1) := by decide +kernel
theorem d8_19 : decode prog_34_method_1_code 19 = .ok (.iconst 4, 1) := by decide +kernel
theorem d8_20 : decode prog_34_method_1_code 20 = .ok (.anewarray 17, 3) := by decide +kernel
theorem d8_23 : decode prog_34_method_1_code 23 = .ok (.putfield 19, 3) := by decide +kernel
theorem d8_26 : decode prog_34_method_1_code 26 = .ok (.return_, 1) := by decide +kernel
theorem d9_0 : decode prog_34_method_2_code 0 = .ok (.aload_n 0, 1) := by decide +kernel
theorem d9_1 : decode prog_34_method_2_code 1 = .ok (.getfield 23, 3) := by decide +kernel
theorem d9_4 : decode prog_34_method_2_code 4 = .ok (.aload_n 0, 1) := by decide +kernel
theorem d9_5 : decode prog_34_method_2_code 5 = .ok (.getfield 27, 3) := by decide +kernel
theorem d9_8 : decode prog_34_method_2_code 8 = .ok (.if_icmp .ge 7, 3) := by decide +kernel
theorem d9_15 : decode prog_34_method_2_code 15 = .ok (.iconst 0, 1) := by decide +kernel
theorem d9_16 : decode prog_34_method_2_code 16 = .ok (.ireturn, 1) := by decide +kernel
theorem d9_11 : decode prog_34_method_2_code 11 = .ok (.iconst 1, 1) := by decide +kernel
theorem d9_12 : decode prog_34_method_2_code 12 = .ok (.goto 4, 3) := by decide +kernel
theorem d16_0 : decode prog_34_method_3_code 0 = .ok (.aload_n 0, 1) := by decide +kernel
theorem d16_1 : decode prog_34_method_3_code 1 = .ok (.getfield 27, 3) := by decide +kernel
theorem d16_4 : decode prog_34_method_3_code 4 = .ok (.aload_n 0, 1) := by decide +kernel
theorem d16_5 : decode prog_34_method_3_code 5 = .ok (.getfield 19, 3) := by decide +kernel
theorem d16_8 : decode prog_34_method_3_code 8 = .ok (.arraylength, 1) := by decide +kernel
theorem d16_9 : decode prog_34_method_3_code 9 = .ok (.if_icmp .ne 57, 3) := by decide +kernel
theorem d16_66 : decode prog_34_method_3_code 66 = .ok (.aload_n 0, 1) := by decide +kernel
theorem d16_67 : decode prog_34_method_3_code 67 = .ok (.getfield 7, 3) := by decide +kernel
theorem d16_70 : decode prog_34_method_3_code 70 = .ok (.aload_n 0, 1) := by decide +kernel
theorem d16_71 : decode prog_34_method_3_code 71 = .ok (.getfield 27, 3) := by decide +kernel
theorem d16_74 : decode prog_34_method_3_code 74 = .ok (.lload_n 1, 1) := by decide +kernel
theorem d16_75 : decode prog_34_method_3_code 75 = .ok (.lastore, 1) := by decide +kernel
theorem d16_76 : decode prog_34_method_3_code 76 = .ok (.aload_n 0, 1) := by decide +kernel
theorem d16_77 : decode prog_34_method_3_code 77 = .ok (.getfield 13, 3) := by decide +kernel
theorem d16_80 : decode prog_34_method_3_code 80 = .ok (.aload_n 0, 1) := by decide +kernel
theorem d16_81 : decode prog_34_method_3_code 81 = .ok (.getfield 27, 3) := by decide +kernel
theorem d16_84 : decode prog_34_method_3_code 84 = .ok (.iload_n 3, 1) := by decide +kernel
theorem d16_85 : decode prog_34_method_3_code 85 = .ok (.iastore, 1) := by decide +kernel
theorem d16_86 : decode prog_34_method_3_code 86 = .ok (.aload_n 0, 1) := by decide +kernel
theorem d16_87 : decode prog_34_method_3_code 87 = .ok (.getfield 19, 3) := by decide +kernel
theorem d16_90 : decode prog_34_method_3_code 90 = .ok (.aload_n 0, 1) := by decide +kernel
theorem d16_91 : decode prog_34_method_3_code 91 = .ok (.getfield 27, 3) := by decide +kernel
theorem d16_94 : decode prog_34_method_3_code 94 = .ok (.aload 4, 2) := by decide +kernel
theorem d16_96 : decode prog_34_method_3_code 96 = .ok (.aastore, 1) := by decide +kernel
theorem d16_97 : decode prog_34_method_3_code 97 = .ok (.aload_n 0, 1) := by decide +kernel
theorem d16_98 : decode prog_34_method_3_code 98 = .ok (.dup, 1) := by decide +kernel
theorem d16_99 : decode prog_34_method_3_code 99 = .ok (.getfield 27, 3) := by decide +kernel
theorem d16_102 : decode prog_34_method_3_code 102 = .ok (.iconst 1, 1) := by decide +kernel
theorem d16_103 : decode prog_34_method_3_code 103 = .ok (.iadd, 1) := by decide +kernel
theorem d16_104 : decode prog_34_method_3_code 104 = .ok (.putfield 27, 3) := by decide +kernel
theorem d16_107 : decode prog_34_method_3_code 107 = .ok (.return_, 1) := by decide +kernel
theorem pn_22 : plainName "java/util/Arrays" = true := by first | (simp [plainName, overriddenIn]; done) | decide +kernel
theorem d23_0 : decode jdk_65_method_30_code 0 = .ok (.iload_n 1, 1) := by decide +kernel
theorem d23_1 : decode jdk_65_method_30_code 1 = .ok (.iload_n 2, 1) := by decide +kernel
theorem d23_2 : decode jdk_65_method_30_code 2 = .ok (.if_icmp .le 44, 3) := by decide +kernel
theorem d23_46 : decode jdk_65_method_30_code 46 = .ok (.iload_n 1, 1) := by decide +kernel
theorem d23_47 : decode jdk_65_method_30_code 47 = .ok (.ifCond .ge 12, 3) := by decide +kernel
theorem d23_59 : decode jdk_65_method_30_code 59 = .ok (.iload_n 2, 1) := by decide +kernel
theorem d23_60 : decode jdk_65_method_30_code 60 = .ok (.iload_n 0, 1) := by decide +kernel
theorem d23_61 : decode jdk_65_method_30_code 61 = .ok (.if_icmp .le 12, 3) := by decide +kernel
theorem d23_73 : decode jdk_65_method_30_code 73 = .ok (.return_, 1) := by decide +kernel
theorem d22_10 : decode jdk_65_method_118_code 10 = .ok (.iload 4, 2) := by decide +kernel
theorem d22_12 : decode jdk_65_method_118_code 12 = .ok (.iload_n 2, 1) := by decide +kernel
theorem d22_13 : decode jdk_65_method_118_code 13 = .ok (.if_icmp .ge 14, 3) := by decide +kernel
theorem d22_27 : decode jdk_65_method_118_code 27 = .ok (.return_, 1) := by decide +kernel
theorem d22_16 : decode jdk_65_method_118_code 16 = .ok (.aload_n 0, 1) := by decide +kernel
theorem d22_17 : decode jdk_65_method_118_code 17 = .ok (.iload 4, 2) := by decide +kernel
theorem d22_19 : decode jdk_65_method_118_code 19 = .ok (.aload_n 3, 1) := by decide +kernel
theorem d22_20 : decode jdk_65_method_118_code 20 = .ok (.aastore, 1) := by decide +kernel
theorem d22_21 : decode jdk_65_method_118_code 21 = .ok (.iinc 4 1, 3) := by decide +kernel
theorem d22_24 : decode jdk_65_method_118_code 24 = .ok (.goto (-14), 3) := by decide +kernel
theorem d22_0 : decode jdk_65_method_118_code 0 = .ok (.aload_n 0, 1) := by decide +kernel
theorem d22_1 : decode jdk_65_method_118_code 1 = .ok (.arraylength, 1) := by decide +kernel
theorem d22_2 : decode jdk_65_method_118_code 2 = .ok (.iload_n 1, 1) := by decide +kernel
theorem d22_3 : decode jdk_65_method_118_code 3 = .ok (.iload_n 2, 1) := by decide +kernel
theorem d22_4 : decode jdk_65_method_118_code 4 = .ok (.invokestatic 13, 3) := by decide +kernel
theorem pd_15 : parseMethodDescriptor "(III)V" = some ⟨[.int, .int, .int], none⟩ := by decide +kernel
theorem d22_7 : decode jdk_65_method_118_code 7 = .ok (.iload_n 1, 1) := by decide +kernel
theorem d22_8 : decode jdk_65_method_118_code 8 = .ok (.istore 4, 2) := by decide +kernel
theorem d21_0 : decode prog_34_method_6_code 0 = .ok (.aload_n 0, 1) := by decide +kernel
theorem d21_1 : decode prog_34_method_6_code 1 = .ok (.getfield 27, 3) := by decide +kernel
theorem d21_4 : decode prog_34_method_6_code 4 = .ok (.aload_n 0, 1) := by decide +kernel
theorem d21_5 : decode prog_34_method_6_code 5 = .ok (.getfield 23, 3) := by decide +kernel
theorem d21_8 : decode prog_34_method_6_code 8 = .ok (.isub, 1) := by decide +kernel
theorem d21_9 : decode prog_34_method_6_code 9 = .ok (.istore_n 1, 1) := by decide +kernel
theorem d21_10 : decode prog_34_method_6_code 10 = .ok (.aload_n 0, 1) := by decide +kernel
theorem d21_11 : decode prog_34_method_6_code 11 = .ok (.getfield 7, 3) := by decide +kernel
theorem d21_14 : decode prog_34_method_6_code 14 = .ok (.aload_n 0, 1) := by decide +kernel
theorem d21_15 : decode prog_34_method_6_code 15 = .ok (.getfield 23, 3) := by decide +kernel
theorem d21_18 : decode prog_34_method_6_code 18 = .ok (.aload_n 0, 1) := by decide +kernel
theorem d21_19 : decode prog_34_method_6_code 19 = .ok (.getfield 7, 3) := by decide +kernel
theorem d21_22 : decode prog_34_method_6_code 22 = .ok (.iconst 0, 1) := by decide +kernel
theorem d21_23 : decode prog_34_method_6_code 23 = .ok (.iload_n 1, 1) := by decide +kernel
theorem d21_24 : decode prog_34_method_6_code 24 = .ok (.invokestatic 56, 3) := by decide +kernel
theorem d21_27 : decode prog_34_method_6_code 27 = .ok (.aload_n 0, 1) := by decide +kernel
theorem d21_28 : decode prog_34_method_6_code 28 = .ok (.getfield 13, 3) := by decide +kernel
theorem d21_31 : decode prog_34_method_6_code 31 = .ok (.aload_n 0, 1) := by decide +kernel
theorem d21_32 : decode prog_34_method_6_code 32 = .ok (.getfield 23, 3) := by decide +kernel
theorem d21_35 : decode prog_34_method_6_code 35 = .ok (.aload_n 0, 1) := by decide +kernel
theorem d21_36 : decode prog_34_method_6_code 36 = .ok (.getfield 13, 3) := by decide +kernel
theorem d21_39 : decode prog_34_method_6_code 39 = .ok (.iconst 0, 1) := by decide +kernel
theorem d21_40 : decode prog_34_method_6_code 40 = .ok (.iload_n 1, 1) := by decide +kernel
theorem d21_41 : decode prog_34_method_6_code 41 = .ok (.invokestatic 56, 3) := by decide +kernel
theorem d21_44 : decode prog_34_method_6_code 44 = .ok (.aload_n 0, 1) := by decide +kernel
theorem d21_45 : decode prog_34_method_6_code 45 = .ok (.getfield 19, 3) := by decide +kernel
theorem d21_48 : decode prog_34_method_6_code 48 = .ok (.aload_n 0, 1) := by decide +kernel
theorem d21_49 : decode prog_34_method_6_code 49 = .ok (.getfield 23, 3) := by decide +kernel
theorem d21_52 : decode prog_34_method_6_code 52 = .ok (.aload_n 0, 1) := by decide +kernel
theorem d21_53 : decode prog_34_method_6_code 53 = .ok (.getfield 19, 3) := by decide +kernel
theorem d21_56 : decode prog_34_method_6_code 56 = .ok (.iconst 0, 1) := by decide +kernel
theorem d21_57 : decode prog_34_method_6_code 57 = .ok (.iload_n 1, 1) := by decide +kernel
theorem d21_58 : decode prog_34_method_6_code 58 = .ok (.invokestatic 56, 3) := by decide +kernel
theorem d21_61 : decode prog_34_method_6_code 61 = .ok (.aload_n 0, 1) := by decide +kernel
theorem d21_62 : decode prog_34_method_6_code 62 = .ok (.getfield 19, 3) := by decide +kernel
theorem d21_65 : decode prog_34_method_6_code 65 = .ok (.iload_n 1, 1) := by decide +kernel
theorem d21_66 : decode prog_34_method_6_code 66 = .ok (.aload_n 0, 1) := by decide +kernel
theorem d21_67 : decode prog_34_method_6_code 67 = .ok (.getfield 27, 3) := by decide +kernel
theorem d21_70 : decode prog_34_method_6_code 70 = .ok (.aconst_null, 1) := by decide +kernel
theorem d21_71 : decode prog_34_method_6_code 71 = .ok (.invokestatic 62, 3) := by decide +kernel
theorem pd_14 : parseMethodDescriptor "([Ljava/lang/Object;IILjava/lang/Object;)V" = some ⟨[(.array (.object "java/lang/Object")), .int, .int, (.object "java/lang/Object")], none⟩ := by decide +kernel
theorem d21_74 : decode prog_34_method_6_code 74 = .ok (.aload_n 0, 1) := by decide +kernel
theorem d21_75 : decode prog_34_method_6_code 75 = .ok (.iload_n 1, 1) := by decide +kernel
theorem d21_76 : decode prog_34_method_6_code 76 = .ok (.putfield 27, 3) := by decide +kernel
theorem d21_79 : decode prog_34_method_6_code 79 = .ok (.aload_n 0, 1) := by decide +kernel
theorem d21_80 : decode prog_34_method_6_code 80 = .ok (.iconst 0, 1) := by decide +kernel
theorem d21_81 : decode prog_34_method_6_code 81 = .ok (.putfield 23, 3) := by decide +kernel
theorem d21_84 : decode prog_34_method_6_code 84 = .ok (.return_, 1) := by decide +kernel
theorem d12_0 : decode prog_34_method_4_code 0 = .ok (.aload_n 0, 1) := by decide +kernel
theorem d12_1 : decode prog_34_method_4_code 1 = .ok (.getfield 23, 3) := by decide +kernel
theorem d12_4 : decode prog_34_method_4_code 4 = .ok (.aload_n 0, 1) := by decide +kernel
theorem d12_5 : decode prog_34_method_4_code 5 = .ok (.getfield 27, 3) := by decide +kernel
theorem d12_8 : decode prog_34_method_4_code 8 = .ok (.if_icmp .ge 46, 3) := by decide +kernel
theorem d12_54 : decode prog_34_method_4_code 54 = .ok (.aload_n 0, 1) := by decide +kernel
theorem d12_55 : decode prog_34_method_4_code 55 = .ok (.getfield 23, 3) := by decide +kernel
theorem d12_58 : decode prog_34_method_4_code 58 = .ok (.aload_n 0, 1) := by decide +kernel
theorem d12_59 : decode prog_34_method_4_code 59 = .ok (.getfield 27, 3) := by decide +kernel
theorem d12_62 : decode prog_34_method_4_code 62 = .ok (.iconst 2, 1) := by decide +kernel
theorem d12_63 : decode prog_34_method_4_code 63 = .ok (.idiv, 1) := by decide +kernel
theorem d12_64 : decode prog_34_method_4_code 64 = .ok (.if_icmp .le 7, 3) := by decide +kernel
theorem d12_71 : decode prog_34_method_4_code 71 = .ok (.return_, 1) := by decide +kernel
theorem d12_67 : decode prog_34_method_4_code 67 = .ok (.aload_n 0, 1) := by decide +kernel
theorem d12_68 : decode prog_34_method_4_code 68 = .ok (.invokevirtual 47, 3) := by decide +kernel
theorem d12_11 : decode prog_34_method_4_code 11 = .ok (.aload_n 0, 1) := by decide +kernel
theorem d12_12 : decode prog_34_method_4_code 12 = .ok (.getfield 7, 3) := by decide +kernel
theorem d12_15 : decode prog_34_method_4_code 15 = .ok (.aload_n 0, 1) := by decide +kernel
theorem d12_16 : decode prog_34_method_4_code 16 = .ok (.getfield 23, 3) := by decide +kernel
theorem d12_19 : decode prog_34_method_4_code 19 = .ok (.laload, 1) := by decide +kernel
theorem d12_20 : decode prog_34_method_4_code 20 = .ok (.lload_n 1, 1) := by decide +kernel
theorem d12_21 : decode prog_34_method_4_code 21 = .ok (.lcmp, 1) := by decide +kernel
theorem d12_22 : decode prog_34_method_4_code 22 = .ok (.ifCond .ge 32, 3) := by decide +kernel
theorem d12_25 : decode prog_34_method_4_code 25 = .ok (.aload_n 0, 1) := by decide +kernel
theorem d12_26 : decode prog_34_method_4_code 26 = .ok (.getfield 19, 3) := by decide +kernel
theorem d12_29 : decode prog_34_method_4_code 29 = .ok (.aload_n 0, 1) := by decide +kernel
theorem d12_30 : decode prog_34_method_4_code 30 = .ok (.getfield 23, 3) := by decide +kernel
theorem d12_33 : decode prog_34_method_4_code 33 = .ok (.aaload, 1) := by decide +kernel
theorem d12_34 : decode prog_34_method_4_code 34 = .ok (.iconst 1, 1) := by decide +kernel
theorem d12_35 : decode prog_34_method_4_code 35 = .ok (.aload_n 3, 1) := by decide +kernel
theorem d12_36 : decode prog_34_method_4_code 36 = .ok (.invokeinterface 43 3, 5) := by decide +kernel
theorem pd_10 : parseMethodDescriptor "(ZLcom/example/hedgewalk/hedgewalk/eval/Agenda;)V" = some ⟨[.boolean, (.object "com/example/hedgewalk/hedgewalk/eval/Agenda")], none⟩ := by decide +kernel
theorem d12_41 : decode prog_34_method_4_code 41 = .ok (.aload_n 0, 1) := by decide +kernel
theorem d12_42 : decode prog_34_method_4_code 42 = .ok (.dup, 1) := by decide +kernel
theorem d12_43 : decode prog_34_method_4_code 43 = .ok (.getfield 23, 3) := by decide +kernel
theorem d12_46 : decode prog_34_method_4_code 46 = .ok (.iconst 1, 1) := by decide +kernel
theorem d12_47 : decode prog_34_method_4_code 47 = .ok (.iadd, 1) := by decide +kernel
theorem d12_48 : decode prog_34_method_4_code 48 = .ok (.putfield 23, 3) := by decide +kernel
theorem d12_51 : decode prog_34_method_4_code 51 = .ok (.goto (-51), 3) := by decide +kernel
theorem d14_0 : decode prog_34_method_5_code 0 = .ok (.aload_n 0, 1) := by decide +kernel
theorem d14_1 : decode prog_34_method_5_code 1 = .ok (.getfield 27, 3) := by decide +kernel
theorem d14_4 : decode prog_34_method_5_code 4 = .ok (.ifCond .le 68, 3) := by decide +kernel
theorem d14_72 : decode prog_34_method_5_code 72 = .ok (.aload_n 0, 1) := by decide +kernel
theorem d14_73 : decode prog_34_method_5_code 73 = .ok (.aload_n 0, 1) := by decide +kernel
theorem d14_74 : decode prog_34_method_5_code 74 = .ok (.getfield 23, 3) := by decide +kernel
theorem d14_77 : decode prog_34_method_5_code 77 = .ok (.aload_n 0, 1) := by decide +kernel
theorem d14_78 : decode prog_34_method_5_code 78 = .ok (.getfield 27, 3) := by decide +kernel
theorem d14_81 : decode prog_34_method_5_code 81 = .ok (.invokestatic 50, 3) := by decide +kernel
theorem pd_8 : parseMethodDescriptor "(II)I" = some ⟨[.int, .int], some .int⟩ := by decide +kernel
theorem d14_84 : decode prog_34_method_5_code 84 = .ok (.putfield 23, 3) := by decide +kernel
theorem d14_87 : decode prog_34_method_5_code 87 = .ok (.return_, 1) := by decide +kernel
theorem d14_7 : decode prog_34_method_5_code 7 = .ok (.aload_n 0, 1) := by decide +kernel
theorem d14_8 : decode prog_34_method_5_code 8 = .ok (.getfield 13, 3) := by decide +kernel
theorem d14_11 : decode prog_34_method_5_code 11 = .ok (.aload_n 0, 1) := by decide +kernel
theorem d14_12 : decode prog_34_method_5_code 12 = .ok (.getfield 27, 3) := by decide +kernel
theorem d14_15 : decode prog_34_method_5_code 15 = .ok (.iconst 1, 1) := by decide +kernel
theorem d14_16 : decode prog_34_method_5_code 16 = .ok (.isub, 1) := by decide +kernel
theorem d14_17 : decode prog_34_method_5_code 17 = .ok (.iaload, 1) := by decide +kernel
theorem d14_18 : decode prog_34_method_5_code 18 = .ok (.iload_n 1, 1) := by decide +kernel
theorem d14_19 : decode prog_34_method_5_code 19 = .ok (.if_icmp .ne 53, 3) := by decide +kernel
theorem d14_22 : decode prog_34_method_5_code 22 = .ok (.aload_n 0, 1) := by decide +kernel
theorem d14_23 : decode prog_34_method_5_code 23 = .ok (.dup, 1) := by decide +kernel
theorem d14_24 : decode prog_34_method_5_code 24 = .ok (.getfield 27, 3) := by decide +kernel
theorem d14_27 : decode prog_34_method_5_code 27 = .ok (.iconst 1, 1) := by decide +kernel
theorem d14_28 : decode prog_34_method_5_code 28 = .ok (.isub, 1) := by decide +kernel
theorem d14_29 : decode prog_34_method_5_code 29 = .ok (.putfield 27, 3) := by decide +kernel
theorem d14_32 : decode prog_34_method_5_code 32 = .ok (.aload_n 0, 1) := by decide +kernel
theorem d14_33 : decode prog_34_method_5_code 33 = .ok (.getfield 27, 3) := by decide +kernel
theorem d14_36 : decode prog_34_method_5_code 36 = .ok (.aload_n 0, 1) := by decide +kernel
theorem d14_37 : decode prog_34_method_5_code 37 = .ok (.getfield 23, 3) := by decide +kernel
theorem d14_40 : decode prog_34_method_5_code 40 = .ok (.if_icmp .lt 19, 3) := by decide +kernel
theorem d14_59 : decode prog_34_method_5_code 59 = .ok (.aload_n 0, 1) := by decide +kernel
theorem d14_60 : decode prog_34_method_5_code 60 = .ok (.getfield 19, 3) := by decide +kernel
theorem d14_63 : decode prog_34_method_5_code 63 = .ok (.aload_n 0, 1) := by decide +kernel
theorem d14_64 : decode prog_34_method_5_code 64 = .ok (.getfield 27, 3) := by decide +kernel
theorem d14_67 : decode prog_34_method_5_code 67 = .ok (.aconst_null, 1) := by decide +kernel
theorem d14_68 : decode prog_34_method_5_code 68 = .ok (.aastore, 1) := by decide +kernel
theorem d14_69 : decode prog_34_method_5_code 69 = .ok (.goto (-69), 3) := by decide +kernel
theorem d14_43 : decode prog_34_method_5_code 43 = .ok (.aload_n 0, 1) := by decide +kernel
theorem d14_44 : decode prog_34_method_5_code 44 = .ok (.getfield 19, 3) := by decide +kernel
theorem d14_47 : decode prog_34_method_5_code 47 = .ok (.aload_n 0, 1) := by decide +kernel
theorem d14_48 : decode prog_34_method_5_code 48 = .ok (.getfield 27, 3) := by decide +kernel
theorem d14_51 : decode prog_34_method_5_code 51 = .ok (.aaload, 1) := by decide +kernel
theorem d14_52 : decode prog_34_method_5_code 52 = .ok (.iconst 0, 1) := by decide +kernel
theorem d14_53 : decode prog_34_method_5_code 53 = .ok (.aload_n 2, 1) := by decide +kernel
theorem d14_54 : decode prog_34_method_5_code 54 = .ok (.invokeinterface 43 3, 5) := by decide +kernel
theorem d11_0 : decode method_3_code 0 = .ok (.iload_n 2, 1) := by decide +kernel
theorem d11_1 : decode method_3_code 1 = .ok (.iconst 1, 1) := by decide +kernel
theorem d11_2 : decode method_3_code 2 = .ok (.iand, 1) := by decide +kernel
theorem d11_3 : decode method_3_code 3 = .ok (.ifCond .ne 12, 3) := by decide +kernel
theorem d11_15 : decode method_3_code 15 = .ok (.aload_n 0, 1) := by decide +kernel
theorem d11_16 : decode method_3_code 16 = .ok (.iload 5, 2) := by decide +kernel
theorem d11_18 : decode method_3_code 18 = .ok (.aload_n 1, 1) := by decide +kernel
theorem d11_19 : decode method_3_code 19 = .ok (.invokevirtual 15, 3) := by decide +kernel
theorem pd_7 : parseMethodDescriptor "(ILcom/example/hedgewalk/hedgewalk/eval/Agenda;)V" = some ⟨[.int, (.object "com/example/hedgewalk/hedgewalk/eval/Agenda")], none⟩ := by decide +kernel
theorem d11_22 : decode method_3_code 22 = .ok (.return_, 1) := by decide +kernel
theorem d11_6 : decode method_3_code 6 = .ok (.aload_n 0, 1) := by decide +kernel
theorem d11_7 : decode method_3_code 7 = .ok (.lload_n 3, 1) := by decide +kernel
theorem d11_8 : decode method_3_code 8 = .ok (.aload_n 1, 1) := by decide +kernel
theorem d11_9 : decode method_3_code 9 = .ok (.invokevirtual 9, 3) := by decide +kernel
theorem pd_5 : parseMethodDescriptor "(JLcom/example/hedgewalk/hedgewalk/eval/Agenda;)V" = some ⟨[.long, (.object "com/example/hedgewalk/hedgewalk/eval/Agenda")], none⟩ := by decide +kernel
theorem d11_12 : decode method_3_code 12 = .ok (.goto 10, 3) := by decide +kernel
theorem d13_0 : decode method_4_code 0 = .ok (.iload_n 0, 1) := by decide +kernel
theorem d13_1 : decode method_4_code 1 = .ok (.ifCond .le 10, 3) := by decide +kernel
theorem d13_11 : decode method_4_code 11 = .ok (.iload_n 0, 1) := by decide +kernel
theorem d13_12 : decode method_4_code 12 = .ok (.iconst 1, 1) := by decide +kernel
theorem d13_13 : decode method_4_code 13 = .ok (.if_icmp .le 10, 3) := by decide +kernel
theorem d13_23 : decode method_4_code 23 = .ok (.iload_n 0, 1) := by decide +kernel
theorem d13_24 : decode method_4_code 24 = .ok (.iconst 2, 1) := by decide +kernel
theorem d13_25 : decode method_4_code 25 = .ok (.if_icmp .le 14, 3) := by decide +kernel
theorem d13_39 : decode method_4_code 39 = .ok (.iconst 0, 1) := by decide +kernel
theorem d13_40 : decode method_4_code 40 = .ok (.ireturn, 1) := by decide +kernel
theorem d13_4 : decode method_4_code 4 = .ok (.aload_n 1, 1) := by decide +kernel
theorem d13_5 : decode method_4_code 5 = .ok (.invokevirtual 19, 3) := by decide +kernel
theorem d13_8 : decode method_4_code 8 = .ok (.ifCond .ne 27, 3) := by decide +kernel
theorem d13_35 : decode method_4_code 35 = .ok (.iconst 1, 1) := by decide +kernel
theorem d13_36 : decode method_4_code 36 = .ok (.goto 4, 3) := by decide +kernel
theorem d13_16 : decode method_4_code 16 = .ok (.aload_n 2, 1) := by decide +kernel
theorem d13_17 : decode method_4_code 17 = .ok (.invokevirtual 19, 3) := by decide +kernel
theorem d13_20 : decode method_4_code 20 = .ok (.ifCond .ne 15, 3) := by decide +kernel
theorem d13_28 : decode method_4_code 28 = .ok (.aload_n 3, 1) := by decide +kernel
theorem d13_29 : decode method_4_code 29 = .ok (.invokevirtual 19, 3) := by decide +kernel
theorem d13_32 : decode method_4_code 32 = .ok (.ifCond .eq 7, 3) := by decide +kernel
theorem pd_3 : parseMethodDescriptor "(IJ)J" = some ⟨[.int, .long], some .long⟩ := by decide +kernel
theorem pd_4 : parseMethodDescriptor "(Lcom/example/hedgewalk/hedgewalk/eval/GoalQueue;Lcom/example/hedgewalk/hedgewalk/eval/Agenda;IJI)V" = some ⟨[(.object "com/example/hedgewalk/hedgewalk/eval/GoalQueue"), (.object "com/example/hedgewalk/hedgewalk/eval/Agenda"), .int, .long, .int], none⟩ := by decide +kernel
theorem pd_6 : parseMethodDescriptor "(ILcom/example/hedgewalk/hedgewalk/eval/Verdict$Told;Lcom/example/hedgewalk/hedgewalk/eval/Verdict$Told;Lcom/example/hedgewalk/hedgewalk/eval/Verdict$Told;)Z" = some ⟨[.int, (.object "com/example/hedgewalk/hedgewalk/eval/Verdict$Told"), (.object "com/example/hedgewalk/hedgewalk/eval/Verdict$Told"), (.object "com/example/hedgewalk/hedgewalk/eval/Verdict$Told")], some .boolean⟩ := by decide +kernel
theorem pd_9 : parseMethodDescriptor "(JILcom/example/hedgewalk/hedgewalk/eval/Verdict$Listener;)V" = some ⟨[.long, .int, (.object "com/example/hedgewalk/hedgewalk/eval/Verdict$Listener")], none⟩ := by decide +kernel
theorem own_ofi {j : Nat} (h : j < 32) : (Int32.ofNat j).toInt = (j : Int) := Int32.toInt_ofNat_of_lt (by omega)
-- plain part of j545-m3-1
/-- the open goals O stand in G from f to s -/
def own_P (O D : List Addr) (G : List Value) (s f : Nat) : Prop := s ≤ 3 ∧ f ≤ 3 ∧ G.length = 4 ∧ O.length = s - f ∧ O.Nodup ∧ (∀ x ∈ O, x ∈ D) ∧ ∀ (i : Nat) (x : Addr), O[i]? = some x → G[f + i]? = some (.ref x)
theorem own_P.put {O D : List Addr} {G : List Value} {s f : Nat} {x : Addr} (H : own_P O D G s f) (hf : f ≤ s) (hs : s < 3) (hx : x ∉ D) : own_P (O ++ [x]) (D ++ [x]) (G.set s (.ref x)) (s + 1) f := by
  obtain ⟨h1, h2, h3, h4, h5, h6, h7⟩ := H
  refine ⟨by omega, h2, by rw [List.length_set]; exact h3, by rw [List.length_append, List.length_singleton]; omega, ?_, ?_, ?_⟩
  · rw [List.nodup_append]
    refine ⟨h5, by simp, fun a ha b hb => ?_⟩
    rw [List.mem_singleton.mp hb]
    intro e; subst e; exact hx (h6 _ ha)
  · intro y hy
    rcases List.mem_append.mp hy with q | q
    · exact List.mem_append_left _ (h6 y q)
    · exact List.mem_append_right _ q
  · intro i y hy
    by_cases e : i < O.length
    · rw [List.getElem?_append_left e] at hy
      rw [List.getElem?_set_ne (by omega)]; exact h7 i y hy
    · rw [List.getElem?_append_right (by omega)] at hy
      have e0 : i - O.length = 0 := by
        have := (List.getElem?_eq_some_iff.mp hy).1
        simp at this; omega
      rw [e0] at hy
      have e1 : f + i = s := by omega
      rw [e1, List.getElem?_set_self (by omega)]
      simp at hy; rw [hy]
theorem own_P.hd {O D : List Addr} {G : List Value} {s f : Nat} {x : Addr} (H : own_P (x :: O) D G s f) : f < s ∧ G[f]? = some (.ref x) ∧ x ∉ O ∧ x ∈ D ∧ own_P O D G s (f + 1) := by
  obtain ⟨h1, h2, h3, h4, h5, h6, h7⟩ := H
  rw [List.length_cons] at h4
  rw [List.nodup_cons] at h5
  refine ⟨by omega, h7 0 x rfl, h5.1, h6 x (List.mem_cons_self ..), h1, by omega, h3, by omega, h5.2, fun y hy => h6 y (List.mem_cons_of_mem _ hy), fun i y hy => ?_⟩
  have q := h7 (i + 1) y (by rw [List.getElem?_cons_succ]; exact hy)
  rw [show f + 1 + i = f + (i + 1) by omega]; exact q
/-- the last goal goes, told or not -/
theorem own_P.lo {O D : List Addr} {G : List Value} {s f : Nat} (H : own_P O D G (s + 1) f) (q : s < f) : own_P O D (G.set s .null) s f := by
  obtain ⟨h1, h2, h3, h4, h5, h6, h7⟩ := H
  have e : O = [] := List.length_eq_zero_iff.mp (by omega)
  subst e
  exact ⟨by omega, h2, by rw [List.length_set]; exact h3, by simp; omega, h5, h6, fun i y hy => by simp at hy⟩
theorem own_P.hi {O D : List Addr} {G : List Value} {s f : Nat} (H : own_P O D G (s + 1) f) (q : f ≤ s) : ∃ (O' : List Addr) (x : Addr), O = O' ++ [x] ∧ x ∈ D ∧ x ∉ O' ∧ G[s]? = some (.ref x) ∧ own_P O' D (G.set s .null) s f := by
  obtain ⟨h1, h2, h3, h4, h5, h6, h7⟩ := H
  rcases List.eq_nil_or_concat O with e | ⟨O', x, e⟩
  · subst e; simp at h4; omega
  · have e' : O = O' ++ [x] := by simpa using e
    subst e'
    rw [List.length_append, List.length_singleton] at h4
    rw [List.nodup_append] at h5
    refine ⟨O', x, rfl, h6 x (by simp), fun z => h5.2.2 x z x (by simp) rfl, ?_, by omega, h2, by rw [List.length_set]; exact h3, by omega, h5.1, fun y hy => h6 y (List.mem_append_left _ hy), fun i y hy => ?_⟩
    · have q' := h7 O'.length x (by simp)
      rw [show f + O'.length = s by omega] at q'; exact q'
    · have il := (List.getElem?_eq_some_iff.mp hy).1
      rw [List.getElem?_set_ne (by omega)]
      exact h7 i y (by rw [List.getElem?_append_left il]; exact hy)
theorem own_P.min {O D : List Addr} {G : List Value} {s f : Nat} (H : own_P O D G s f) : own_P O D G s (Nat.min f s) := by
  obtain ⟨h1, h2, h3, h4, h5, h6, h7⟩ := H
  by_cases q : f ≤ s
  · have e : Nat.min f s = f := Nat.min_eq_left q
    rw [e]; exact ⟨h1, h2, h3, h4, h5, h6, h7⟩
  · have e : Nat.min f s = s := Nat.min_eq_right (by omega)
    have e' : O = [] := List.length_eq_zero_iff.mp (by omega)
    subst e'
    rw [e]
    exact ⟨h1, h1, h3, by simp, h5, h6, fun i y hy => by simp at hy⟩
/-- the told ones are dropped -/
theorem own_P.drop {O D : List Addr} {G G' : List Value} {s f : Nat} (H : own_P O D G s f) (hl : G'.length = 4) (hG : ∀ i : Nat, i < s - f → G'[i]? = G[f + i]?) : own_P O D G' (s - f) 0 := by
  obtain ⟨h1, h2, h3, h4, h5, h6, h7⟩ := H
  refine ⟨by omega, by omega, hl, by omega, h5, h6, fun i y hy => ?_⟩
  have il := (List.getElem?_eq_some_iff.mp hy).1
  rw [Nat.zero_add, hG i (by omega)]; exact h7 i y hy
theorem own_cpi {V : Type} {G : List V} {f n i : Nat} (hf : f + n ≤ G.length) (hi : i < n) : (G.take 0 ++ (G.drop f).take n ++ G.drop (0 + n))[i]? = G[f + i]? := by
  rw [List.take_zero, List.nil_append, List.getElem?_append_left (by simp; omega), List.getElem?_take_of_lt hi, List.getElem?_drop]
theorem own_cpl {V : Type} {G : List V} {f n : Nat} (hf : f + n ≤ G.length) : (G.take 0 ++ (G.drop f).take n ++ G.drop (0 + n)).length = G.length := by simp; omega
theorem own_cpm {U V : Type} (g : U → V) {K : List U} {f n : Nat} : (K.map g).take 0 ++ ((K.map g).drop f).take n ++ (K.map g).drop (0 + n) = (K.take 0 ++ (K.drop f).take n ++ K.drop (0 + n)).map g := by simp [List.map_take, List.map_drop]
theorem own_sub1 (s : Nat) : Int32.ofNat (s + 1) - 1 = Int32.ofNat s := by rw [Int32.ofNat_add]; show Int32.ofNat s + 1 - 1 = _; rw [Int32.add_sub_cancel]
theorem own_ofs (k : Nat) : Int32.ofNat k + 1 = Int32.ofNat (k + 1) := by rw [Int32.ofNat_add]; rfl
theorem own_subk : ∀ s f : Fin 8, f.val ≤ s.val → Int32.ofNat s - Int32.ofNat f = Int32.ofNat (s.val - f.val) := by decide +kernel
theorem own_sub {s f : Nat} (h : f ≤ s) (hs : s < 8) : Int32.ofNat s - Int32.ofNat f = Int32.ofNat (s - f) := own_subk ⟨s, hs⟩ ⟨f, by omega⟩ h
def own_min (x y : Int32) : Int32 := if y < x then y else x
theorem own_minN {f s : Nat} (hf : f < 32) (hs : s < 32) : own_min (Int32.ofNat f) (Int32.ofNat s) = Int32.ofNat (Nat.min f s) := by
  unfold own_min
  have e : Int32.ofNat s < Int32.ofNat f ↔ s < f := by rw [Int32.lt_iff_toInt_lt, own_ofi hf, own_ofi hs]; omega
  by_cases q : f ≤ s
  · rw [if_neg (fun z => absurd (e.mp z) (by omega))]; congr 1; exact (Nat.min_eq_left q).symm
  · rw [if_pos (e.mpr (by omega))]; congr 1; exact (Nat.min_eq_right (by omega)).symm
def own_h (O : List Addr) : Int32 := if O = [] then 0 else 1
theorem own_h0 {O : List Addr} {n : Nat} (h : O.length = n) (q : n = 0) : own_h O = 0 := by rw [own_h, if_pos (List.length_eq_zero_iff.mp (h.trans q))]
theorem own_h1 {O : List Addr} {n : Nat} (h : O.length = n) (q : 0 < n) : own_h O = 1 := by
  rw [own_h, if_neg]
  intro e; subst e; simp at h; omega
theorem own_hm {O : List Addr} {x : Addr} (h : x ∈ O) : own_h O = 1 := by
  rw [own_h, if_neg]
  intro e; subst e; simp at h
theorem own_hn {O D : List Addr} (h : ∀ x ∈ O, x ∈ D) (q : ∀ x ∈ D, x ∉ O) : own_h O = 0 := by
  rw [own_h, if_pos]
  cases O with
  | nil => rfl
  | cons y O => exact absurd (List.mem_cons_self ..) (q y (h y (List.mem_cons_self ..)))
theorem own_bool (O : List Addr) : own_h O = 0 ∨ own_h O = 1 := by
  unfold own_h; split
  · exact Or.inl rfl
  · exact Or.inr rfl
theorem own_l4 {k : Int32} (h0 : 0 ≤ k.toInt) (h1 : k.toInt < 4) : k = 0 ∨ k = 1 ∨ k = 2 ∨ k = 3 := by
  simp only [← Int32.toInt_inj, show (0 : Int32).toInt = 0 from by decide, show (1 : Int32).toInt = 1 from by decide, show (2 : Int32).toInt = 2 from by decide, show (3 : Int32).toInt = 3 from by decide]
  omega
theorem own_m3 (x : Int32) : 0 ≤ (x &&& 3).toInt ∧ (x &&& 3).toInt < 4 := by
  have e1 : (x &&& 3).toInt = x.toInt % 2 ^ 2 := Jvm.Kit.i32_mask x 3 (k := 2) (by decide) (by decide)
  omega
theorem own_ltN {i j : Nat} (hi : i < 32) (hj : j < 32) : Int32.ofNat i < Int32.ofNat j ↔ i < j := by rw [Int32.lt_iff_toInt_lt, own_ofi hi, own_ofi hj]; omega
theorem own_pos {s : Nat} (h : s + 1 < 32) : (0 : Int32) < Int32.ofNat (s + 1) := by
  have k0 : (0 : Int32).toInt = 0 := by decide
  rw [Int32.lt_iff_toInt_lt, own_ofi h, k0]; omega
theorem own_ne4 {s n : Nat} (h : s < 4) (hn : n = 4) : ¬ Int32.ofNat s = n.toInt32 := by
  subst hn
  intro q
  have q' := congrArg Int32.toInt q
  have k4 : ((4 : Nat).toInt32).toInt = 4 := by decide
  rw [own_ofi (by omega), k4] at q'
  omega
theorem own_hnil : own_h [] = 0 := if_pos rfl
theorem own_Arr.cast {Z : State} {h : Heap} {a : Addr} {ty : FieldType} {vs ws : List Value} (F : own_Arr Z h a ty vs) (e : vs = ws) : own_Arr Z h a ty ws := e ▸ F
theorem own_ct1 {ct : List Int64} {j : Nat} {z : Int64} : (ct.map Value.long).set j (.long z) = (ct.set j z).map Value.long := by rw [List.map_set]
theorem own_un1 {un : List Int32} {j : Nat} {z : Int32} : (un.map Value.int).set j (.int z) = (un.set j z).map Value.int := by rw [List.map_set]
theorem own_ctv {ct : List Int64} {j : Nat} (h : j < ct.length) : (ct.map Value.long)[j]? = some (.long (ct.getD j 0)) := by
  rw [List.getElem?_map, List.getD_eq_getElem?_getD, List.getElem?_eq_getElem h]; rfl
theorem own_unw {un : List Int32} {j : Nat} (h : j < un.length) : (un.map Value.int)[j]? = some (.int (un.getD j 0)) := by
  rw [List.getElem?_map, List.getD_eq_getElem?_getD, List.getElem?_eq_getElem h]; rfl
theorem own_P.mem {O D : List Addr} {G : List Value} {s f : Nat} {v : Value} (H : own_P O D G s f) (hv : v ∈ (G.drop f).take (s - f)) : ∃ x, v = .ref x ∧ x ∈ D := by
  obtain ⟨h1, h2, h3, h4, h5, h6, h7⟩ := H
  obtain ⟨i, hi, rfl⟩ := List.getElem_of_mem hv
  have il : i < s - f := by rw [List.length_take] at hi; omega
  have io : i < O.length := by omega
  refine ⟨O[i], ?_, h6 _ (List.getElem_mem io)⟩
  have q := h7 i O[i] (List.getElem?_eq_getElem io)
  have q2 : ((G.drop f).take (s - f))[i]? = G[f + i]? := by rw [List.getElem?_take_of_lt il, List.getElem?_drop]
  rw [List.getElem?_eq_getElem hi, q] at q2
  exact Option.some.inj q2
/-- the goal g is open just if b -/
def own_Told (Z : State) (h : Heap) (aH aF g : Addr) (b : Prop) : Prop := Exa Z h g "com/example/hedgewalk/hedgewalk/eval/Verdict$Told" ∧ ∃ w, Fld Z h g "com/example/hedgewalk/hedgewalk/eval/Verdict" "waiting" "Ljava/lang/Object;" w ∧ ((b ∧ w = .null) ∨ (¬ b ∧ (w = .ref aH ∨ w = .ref aF)))
/-- of the goals A just those of R are open -/
def own_D (Z : State) (h : Heap) (n0 : Nat) (aH aF : Addr) (R A : List Addr) : Prop := ∀ x ∈ A, own_Told Z h aH aF x (x ∈ R) ∧ n0 ≤ x
def own_G (Z : State) (h : Heap) (n0 : Nat) (q bk bh bg : Addr) (K : List Int64) (H : List Int32) (G : List Value) (s f : Nat) : Prop := Exa Z h q "com/example/hedgewalk/hedgewalk/eval/GoalQueue" ∧ Fld Z h q "com/example/hedgewalk/hedgewalk/eval/GoalQueue" "keys" "[J" (.ref bk) ∧ Fld Z h q "com/example/hedgewalk/hedgewalk/eval/GoalQueue" "holders" "[I" (.ref bh) ∧ Fld Z h q "com/example/hedgewalk/hedgewalk/eval/GoalQueue" "goals" "[Lcom/example/hedgewalk/hedgewalk/eval/Verdict$Listener;" (.ref bg) ∧ Fld Z h q "com/example/hedgewalk/hedgewalk/eval/GoalQueue" "size" "I" (.int (Int32.ofNat s)) ∧ Fld Z h q "com/example/hedgewalk/hedgewalk/eval/GoalQueue" "firstOpen" "I" (.int (Int32.ofNat f)) ∧ own_Arr Z h bk .long (K.map Value.long) ∧ own_Arr Z h bh .int (H.map Value.int) ∧ own_Arr Z h bg (.object "com/example/hedgewalk/hedgewalk/eval/Verdict$Listener") G ∧ own_Ovr Z h bg "com/example/hedgewalk/hedgewalk/eval/Verdict$Listener" ∧ n0 ≤ q ∧ n0 ≤ bk ∧ n0 ≤ bh ∧ n0 ≤ bg
def own_St2 (Z : State) (h : Heap) (aH aF : Addr) : Prop := Sta Z h "com/example/hedgewalk/hedgewalk/eval/Verdict" "HOLDS" "Ljava/lang/Object;" (.ref aH) ∧ Sta Z h "com/example/hedgewalk/hedgewalk/eval/Verdict" "FAILS" "Ljava/lang/Object;" (.ref aF)
/-- the queue at q: the goals D were added, Un will be, O of D are open -/
def own_W (Z : State) (h : Heap) (n0 : Nat) (aH aF q bk bh bg ag : Addr) (A O D Un : List Addr) (s f : Nat) : Prop := ∃ (K : List Int64) (H : List Int32) (G : List Value), own_G Z h n0 q bk bh bg K H G s f ∧ own_P O D G s f ∧ f ≤ s ∧ K.length = 4 ∧ H.length = 4 ∧ own_D Z h n0 aH aF (O ++ Un) A ∧ Sta Z h "com/example/hedgewalk/hedgewalk/eval/Verdict" "HOLDS" "Ljava/lang/Object;" (.ref aH) ∧ Sta Z h "com/example/hedgewalk/hedgewalk/eval/Verdict" "FAILS" "Ljava/lang/Object;" (.ref aF) ∧ Exa Z h ag "com/example/hedgewalk/hedgewalk/eval/Agenda" ∧ (∀ x ∈ D, x ∈ A) ∧ (∀ x ∈ D, x ∉ Un)
theorem own_W.exa {Z : State} {h : Heap} {n0 : Nat} {aH aF q bk bh bg ag : Addr} {A O D Un : List Addr} {s f : Nat} (F : own_W Z h n0 aH aF q bk bh bg ag A O D Un s f) : Exa Z h q "com/example/hedgewalk/hedgewalk/eval/GoalQueue" := by obtain ⟨K, H, G, F, -⟩ := F; exact F.1
theorem own_W.sz {Z : State} {h : Heap} {n0 : Nat} {aH aF q bk bh bg ag : Addr} {A O D Un : List Addr} {s f : Nat} (F : own_W Z h n0 aH aF q bk bh bg ag A O D Un s f) : n0 ≤ h.size := by
  obtain ⟨K, H, G, F, -⟩ := F
  exact Nat.le_of_lt (Nat.lt_of_le_of_lt F.2.2.2.2.2.2.2.2.2.2.1 F.1.lt)
section OwnD
variable {Z : State} {a0 : Array Value} {h h' : Heap} {n0 : Nat} {aH aF b x : Addr} {R R' A ws : List Addr} {c : Prop} {sl : Nat} {v w : Value} {ty : FieldType} {vs : List Value}
theorem own_Told.iff {c' : Prop} (F : own_Told Z h aH aF x c) (e : c ↔ c') : own_Told Z h aH aF x c' := by
  obtain ⟨E, w, F, H⟩ := F
  exact ⟨E, w, F, by rw [← e]; exact H⟩
theorem own_Told.ext (F : own_Told Z h aH aF x c) (E : Ext h h') : own_Told Z h' aH aF x c := by
  obtain ⟨E1, w, F, H⟩ := F
  exact ⟨Exa.ext E E1, w, Fld.ext E F, H⟩
theorem own_Told.keep (F : own_Told Z h aH aF x c) (K : Keep h h' ws) (q : x ∉ ws) : own_Told Z h' aH aF x c := by
  obtain ⟨E1, w, F, H⟩ := F
  exact ⟨Exa.keep E1 K, w, Fld.keep F K q, H⟩
theorem own_D.ext (F : own_D Z h n0 aH aF R A) (E : Ext h h') : own_D Z h' n0 aH aF R A := fun x hx => ⟨(F x hx).1.ext E, (F x hx).2⟩
theorem own_D.iff (F : own_D Z h n0 aH aF R A) (e : ∀ x ∈ A, (x ∈ R ↔ x ∈ R')) : own_D Z h n0 aH aF R' A := fun x hx => ⟨(F x hx).1.iff (e x hx), (F x hx).2⟩
theorem own_D.wrE (F : own_D Z h n0 aH aF R A) (W : Wr h h' b sl v) (G : Exa Z h b "com/example/hedgewalk/hedgewalk/eval/GoalQueue") : own_D Z h' n0 aH aF R A := fun x hx => ⟨(F x hx).1.keep (Keep.of_wr W) (ninS (ne_exa (F x hx).1.1 G (by decide)) nin0), (F x hx).2⟩
theorem own_D.keepA (F : own_D Z h n0 aH aF R A) (K : Keep h h' [b]) (G : own_Arr Z h b ty vs) (wi : (Cond.instantiable "com/example/hedgewalk/hedgewalk/eval/Verdict$Told" 1).before a0 Z = true) : own_D Z h' n0 aH aF R A := fun x hx => ⟨(F x hx).1.keep K (ninS (own_exa_arr (F x hx).1.1 wi G) nin0), (F x hx).2⟩
theorem own_D.settle (F : own_D Z h n0 aH aF R A) (K : Keep h h' [x]) (Ex : Exa Z h' x "com/example/hedgewalk/hedgewalk/eval/Verdict$Told") (Fx : Fld Z h' x "com/example/hedgewalk/hedgewalk/eval/Verdict" "waiting" "Ljava/lang/Object;" w) (hw : w = .ref aH ∨ w = .ref aF) (hn : x ∉ R') (hp : ∀ y ∈ A, y ≠ x → (y ∈ R ↔ y ∈ R')) : own_D Z h' n0 aH aF R' A := by
  intro y hy
  refine ⟨?_, (F y hy).2⟩
  by_cases e : y = x
  · subst e; exact ⟨Ex, w, Fx, Or.inr ⟨hn, hw⟩⟩
  · exact ((F y hy).1.keep K (ninS e nin0)).iff (hp y hy e)
end OwnD
def own_m (x : Addr) (O : List Addr) : Int32 := if x ∈ O then 1 else 0
theorem own_Told.open {Z : State} {h : Heap} {aH aF x : Addr} {O Un : List Addr} (F : own_Told Z h aH aF x (x ∈ O ++ Un)) (hu : x ∉ Un) : ∃ w, Fld Z h x "com/example/hedgewalk/hedgewalk/eval/Verdict" "waiting" "Ljava/lang/Object;" w ∧ ((w = .null ∧ own_m x O = 1) ∨ (w = .ref aH ∧ own_m x O = 0) ∨ (w = .ref aF ∧ own_m x O = 0)) := by
  obtain ⟨E, w, F, H⟩ := F
  have e : x ∈ O ++ Un ↔ x ∈ O := by rw [List.mem_append]; exact ⟨fun q => q.elim id fun z => absurd z hu, Or.inl⟩
  rw [e] at H
  refine ⟨w, F, ?_⟩
  unfold own_m
  rcases H with ⟨q, rfl⟩ | ⟨q, rfl | rfl⟩
  · exact Or.inl ⟨rfl, if_pos q⟩
  · exact Or.inr (Or.inl ⟨rfl, if_neg q⟩)
  · exact Or.inr (Or.inr ⟨rfl, if_neg q⟩)
theorem own_m1 {x : Addr} {O : List Addr} (h : ¬ own_m x O = 0) : x ∈ O := Classical.byContradiction fun q => h (if_neg q)
theorem own_m0 {x : Addr} {O : List Addr} (h : own_m x O = 0) : x ∉ O := fun q => by rw [own_m, if_pos q] at h; exact absurd h (by decide)
def QI (z : Int32) (h0 : Heap) (n0 : Nat) (v : Option Value) (h : Heap) (L : List Loc) : Prop := v = some (.int z) ∧ Fr n0 L ∧ h = h0
def QN (h0 : Heap) (n0 : Nat) (v : Option Value) (h : Heap) (L : List Loc) : Prop := v = none ∧ Fr n0 L ∧ h = h0
def QL (h0 : Heap) (n0 : Nat) (v : Option Value) (h : Heap) (L : List Loc) : Prop := ∃ z : Int64, v = some (.long z) ∧ Fr n0 L ∧ h = h0
def QE (Z : State) (a : Addr) (K : String) (h0 : Heap) (n0 : Nat) (v : Option Value) (h : Heap) (L : List Loc) : Prop := v = none ∧ Fr n0 L ∧ Keep h0 h [a] ∧ Exa Z h a K
def QT (Z : State) (a : Addr) (h0 : Heap) (n0 : Nat) (v : Option Value) (h : Heap) (L : List Loc) : Prop := v = none ∧ Fr n0 L ∧ Keep h0 h [a] ∧ Exa Z h a "com/example/hedgewalk/hedgewalk/eval/Verdict$Told" ∧ Fld Z h a "com/example/hedgewalk/hedgewalk/eval/Verdict" "waiting" "Ljava/lang/Object;" .null
def QS (Z : State) (a aH aF : Addr) (r : Option Value) (h0 : Heap) (n0 : Nat) (v : Option Value) (h : Heap) (L : List Loc) : Prop := v = r ∧ Fr n0 L ∧ Keep h0 h [a] ∧ Exa Z h a "com/example/hedgewalk/hedgewalk/eval/Verdict$Told" ∧ ∃ w, Fld Z h a "com/example/hedgewalk/hedgewalk/eval/Verdict" "waiting" "Ljava/lang/Object;" w ∧ (w = .ref aH ∨ w = .ref aF)
def Q8 (Z : State) (a : Addr) (h0 : Heap) (n0 : Nat) (v : Option Value) (h : Heap) (L : List Loc) : Prop := ∃ bk bh bg : Addr, v = none ∧ Fr n0 L ∧ Keep h0 h [a] ∧ own_G Z h n0 a bk bh bg (List.replicate 4 0) (List.replicate 4 0) (List.replicate 4 .null) 0 0
def Q16 (Z : State) (aH aF q bk bh bg ag : Addr) (A O D Un : List Addr) (s f n0 : Nat) (v : Option Value) (h : Heap) (L : List Loc) : Prop := v = none ∧ Fr n0 L ∧ own_W Z h n0 aH aF q bk bh bg ag A O D Un s f
def Q21 (Z : State) (aH aF q bk bh bg ag : Addr) (A O D Un : List Addr) (n0 : Nat) (v : Option Value) (h : Heap) (L : List Loc) : Prop := ∃ s f : Nat, v = none ∧ Fr n0 L ∧ own_W Z h n0 aH aF q bk bh bg ag A O D Un s f
def Q12 (Z : State) (aH aF q bk bh bg ag : Addr) (A D Un : List Addr) (n0 : Nat) (v : Option Value) (h : Heap) (L : List Loc) : Prop := ∃ (O : List Addr) (s f : Nat), v = none ∧ Fr n0 L ∧ own_W Z h n0 aH aF q bk bh bg ag A O D Un s f
def Q22 (Z : State) (a : Addr) (ty : FieldType) (G : List Value) (i0 : Nat) (h0 : Heap) (n0 : Nat) (v : Option Value) (h : Heap) (L : List Loc) : Prop := ∃ G' : List Value, v = none ∧ Fr n0 L ∧ Keep h0 h [a] ∧ own_Arr Z h a ty G' ∧ G'.length = G.length ∧ ∀ i : Nat, i < i0 → G'[i]? = G[i]?
def Q0 (n0 : Nat) (v : Option Value) (h : Heap) (L : List Loc) : Prop := v = some (.int (1 : Int32)) ∧ Fr n0 L
theorem ef_20 (m : MethodId) (a1 : Addr) : entryFrame m #[(.ref a1)] 1 = mkF m 0 #[.val (.ref a1)] [] := by first | (simp [entryFrame, mkF, argsToLocals, Value.category]; done) | rfl
set_option maxRecDepth 65536 in
set_option maxHeartbeats 40000000 in
theorem rm20 (l : Launch) (Z : State) (a0 : Array Value) (hw : ∀ d ∈ tables_1, d.before a0 Z = true) (ws : List Jvm.Cond) (a1 : Addr) (aH : Addr) (aF : Addr) (w : Value) (z : Int32) (h0 : Heap) (n0 : Nat) (Z0 : n0 ≤ h0.size) (S_H : Sta Z h0 "com/example/hedgewalk/hedgewalk/eval/Verdict" "HOLDS" "Ljava/lang/Object;" (.ref aH)) (S_F : Sta Z h0 "com/example/hedgewalk/hedgewalk/eval/Verdict" "FAILS" "Ljava/lang/Object;" (.ref aF)) (F_w : Fld Z h0 a1 "com/example/hedgewalk/hedgewalk/eval/Verdict" "waiting" "Ljava/lang/Object;" w) (hz : (w = .null ∧ z = 1) ∨ (w = .ref aH ∧ z = 0) ∨ (w = .ref aF ∧ z = 0)) :
    MetFree l (⟨"com/example/hedgewalk/hedgewalk/eval/Verdict", "isOpen", "()Z"⟩ : MethodName) (head1 (Jvm.Cond.code (⟨"com/example/hedgewalk/hedgewalk/eval/Verdict", "isOpen", "()Z"⟩ : MethodName) prog_78_method_8_code 1 (some .boolean) :: ws) ({ frames := 0, cells := 0, slots := 0, locals := 0 } : Room)) (fun a U => a = #[(.ref a1)] ∧ Z.Warmed39 U.vm ∧ U.heap = h0) (fun _ _ _ _ _ => True) (fun _ U o U' => ∃ v L, o = .returned v ∧ QI z h0 n0 v U'.heap L ∧ FrameEnd U o U' L ({ frames := 0, cells := 0, slots := 0, locals := 0 } : Room).cells ({ frames := 0, cells := 0, slots := 0, locals := 0 } : Room).slots) := by
  refine MetFree.of_bodySF (plainFor_of_name pn_6) hisR ?_
  intro p e s m args below meth c s₁ Bd hml0 hP hK
  obtain ⟨rfl, hZ, hh⟩ := hP
  have hx := Bd.exec
  have hby := Bd.bytes
  have hml : c.maxLocals = 1 := hml0
  have hown : s.vm.findClass "com/example/hedgewalk/hedgewalk/eval/Verdict" = some m.cls := findClass_of_methodNamed Bd.named
  have hnm := (name_of_methodNamed Bd.named Bd.method).1
  have hlk : meth.locks = false := BodyLoose.notSynchronized Bd
  have X0 : Stand p l e ({ frames := 0, cells := 0, slots := 0, locals := 0 } : Room) s m #[(.ref a1)] below meth c s₁ [] 0 0 := Stand.of_body Bd
  have e0 : s₁.heap = h0 := by rw [← hh, Bd.state]; rfl
  have N0 := Fr.nil n0
  refine own_start (Q := QI z h0 n0) (ef_20 m a1) ?_
  rcases hz with ⟨rfl, rfl⟩ | ⟨rfl, rfl⟩ | ⟨rfl, rfl⟩
  · have F_v := F_w
    show own_Go p e below _ s₁ (mkF m 0 #[.val (.ref a1)] [])
    refine own_by (fun t_ k_ => XS.aloadN X0.here hx rfl (hb hby d20_0) rfl rfl k_) ?_
    show own_Go p e below _ s₁ (mkF m 1 #[.val (.ref a1)] [(.ref a1)])
    refine own_getF X0 hx hZ hown (own_w hw 48 rfl) Via.refl e0 F_v (hb hby d20_1) ?_
    intro T1 X1 e1
    show own_Go p e below _ T1 (mkF m 4 #[.val (.ref a1)] [.null])
    refine own_getS X1 hx hZ hown (own_w hw 130 rfl) Via.refl e1 S_H (hb hby d20_4) ?_
    intro T2 X2 e2
    show own_Go p e below _ T2 (mkF m 7 #[.val (.ref a1)] [(.ref aH), .null])
    refine own_by (fun t_ k_ => Jvm.RoadKit.acmp (g := (mkF m 7 #[.val (.ref a1)] [(.ref aH), .null])) X2 hx rfl rfl rfl (pc0 := 7) (pc' := 10) (same := false) rfl (hb hby d20_7) rfl (decide_eq_false nofun) (by decide) (by decide) k_) ?_
    show own_Go p e below _ T2 (mkF m 10 #[.val (.ref a1)] [])
    refine own_by (fun t_ k_ => XS.aloadN X2.here hx rfl (hb hby d20_10) rfl rfl k_) ?_
    show own_Go p e below _ T2 (mkF m 11 #[.val (.ref a1)] [(.ref a1)])
    refine own_getF X2 hx hZ hown (own_w hw 48 rfl) Via.refl e2 F_v (hb hby d20_11) ?_
    intro T3 X3 e3
    show own_Go p e below _ T3 (mkF m 14 #[.val (.ref a1)] [.null])
    refine own_getS X3 hx hZ hown (own_w hw 132 rfl) Via.refl e3 S_F (hb hby d20_14) ?_
    intro T4 X4 e4
    show own_Go p e below _ T4 (mkF m 17 #[.val (.ref a1)] [(.ref aF), .null])
    refine own_by (fun t_ k_ => Jvm.RoadKit.acmp (g := (mkF m 17 #[.val (.ref a1)] [(.ref aF), .null])) X4 hx rfl rfl rfl (pc0 := 17) (pc' := 20) (same := false) rfl (hb hby d20_17) rfl (decide_eq_false nofun) (by decide) (by decide) k_) ?_
    show own_Go p e below _ T4 (mkF m 20 #[.val (.ref a1)] [])
    refine own_by (fun t_ k_ => XS.iconst X4.here hx rfl (hb hby d20_20) k_) ?_
    show own_Go p e below _ T4 (mkF m 21 #[.val (.ref a1)] [(.int (1 : Int32))])
    refine own_by (fun t_ k_ => XS.goto X4.here hx rfl (pc0 := 21) (pc' := 25) rfl (hb hby d20_21) (by decide) (by decide) k_) ?_
    show own_Go p e below _ T4 (mkF m 25 #[.val (.ref a1)] [(.int (1 : Int32))])
    refine own_retZ X4 hx hlk Bd.returns (by decide) (hb hby d20_25) e4 (by decide) (by decide) ?_
    exact ⟨rfl, N0, rfl⟩
  · have F_v := F_w
    show own_Go p e below _ s₁ (mkF m 0 #[.val (.ref a1)] [])
    refine own_by (fun t_ k_ => XS.aloadN X0.here hx rfl (hb hby d20_0) rfl rfl k_) ?_
    show own_Go p e below _ s₁ (mkF m 1 #[.val (.ref a1)] [(.ref a1)])
    refine own_getF X0 hx hZ hown (own_w hw 48 rfl) Via.refl e0 F_v (hb hby d20_1) ?_
    intro T5 X5 e5
    show own_Go p e below _ T5 (mkF m 4 #[.val (.ref a1)] [(.ref aH)])
    refine own_getS X5 hx hZ hown (own_w hw 130 rfl) Via.refl e5 S_H (hb hby d20_4) ?_
    intro T6 X6 e6
    show own_Go p e below _ T6 (mkF m 7 #[.val (.ref a1)] [(.ref aH), (.ref aH)])
    refine own_by (fun t_ k_ => Jvm.RoadKit.acmp (g := (mkF m 7 #[.val (.ref a1)] [(.ref aH), (.ref aH)])) X6 hx rfl rfl rfl (pc0 := 7) (pc' := 24) (same := true) rfl (hb hby d20_7) rfl (decide_eq_true rfl) (by decide) (by decide) k_) ?_
    show own_Go p e below _ T6 (mkF m 24 #[.val (.ref a1)] [])
    refine own_by (fun t_ k_ => XS.iconst X6.here hx rfl (hb hby d20_24) k_) ?_
    show own_Go p e below _ T6 (mkF m 25 #[.val (.ref a1)] [(.int (0 : Int32))])
    refine own_retZ X6 hx hlk Bd.returns (by decide) (hb hby d20_25) e6 (by decide) (by decide) ?_
    exact ⟨rfl, N0, rfl⟩
  · have F_v := F_w
    show own_Go p e below _ s₁ (mkF m 0 #[.val (.ref a1)] [])
    refine own_by (fun t_ k_ => XS.aloadN X0.here hx rfl (hb hby d20_0) rfl rfl k_) ?_
    show own_Go p e below _ s₁ (mkF m 1 #[.val (.ref a1)] [(.ref a1)])
    refine own_getF X0 hx hZ hown (own_w hw 48 rfl) Via.refl e0 F_v (hb hby d20_1) ?_
    intro T7 X7 e7
    show own_Go p e below _ T7 (mkF m 4 #[.val (.ref a1)] [(.ref aF)])
    refine own_getS X7 hx hZ hown (own_w hw 130 rfl) Via.refl e7 S_H (hb hby d20_4) ?_
    intro T8 X8 e8
    show own_Go p e below _ T8 (mkF m 7 #[.val (.ref a1)] [(.ref aH), (.ref aF)])
    refine own_acmpEq X8 hx 24 (hb hby d20_7) (by decide) (by decide) (fun (hc7 : aF = aH) => ?_) (fun (hc7 : ¬ aF = aH) => ?_)
    · show own_Go p e below _ T8 (mkF m 24 #[.val (.ref a1)] [])
      refine own_by (fun t_ k_ => XS.iconst X8.here hx rfl (hb hby d20_24) k_) ?_
      show own_Go p e below _ T8 (mkF m 25 #[.val (.ref a1)] [(.int (0 : Int32))])
      refine own_retZ X8 hx hlk Bd.returns (by decide) (hb hby d20_25) e8 (by decide) (by decide) ?_
      exact ⟨rfl, N0, rfl⟩
    · show own_Go p e below _ T8 (mkF m 10 #[.val (.ref a1)] [])
      refine own_by (fun t_ k_ => XS.aloadN X8.here hx rfl (hb hby d20_10) rfl rfl k_) ?_
      show own_Go p e below _ T8 (mkF m 11 #[.val (.ref a1)] [(.ref a1)])
      refine own_getF X8 hx hZ hown (own_w hw 48 rfl) Via.refl e8 F_v (hb hby d20_11) ?_
      intro T9 X9 e9
      show own_Go p e below _ T9 (mkF m 14 #[.val (.ref a1)] [(.ref aF)])
      refine own_getS X9 hx hZ hown (own_w hw 132 rfl) Via.refl e9 S_F (hb hby d20_14) ?_
      intro T10 X10 e10
      show own_Go p e below _ T10 (mkF m 17 #[.val (.ref a1)] [(.ref aF), (.ref aF)])
      refine own_by (fun t_ k_ => Jvm.RoadKit.acmp (g := (mkF m 17 #[.val (.ref a1)] [(.ref aF), (.ref aF)])) X10 hx rfl rfl rfl (pc0 := 17) (pc' := 24) (same := true) rfl (hb hby d20_17) rfl (decide_eq_true rfl) (by decide) (by decide) k_) ?_
      show own_Go p e below _ T10 (mkF m 24 #[.val (.ref a1)] [])
      refine own_by (fun t_ k_ => XS.iconst X10.here hx rfl (hb hby d20_24) k_) ?_
      show own_Go p e below _ T10 (mkF m 25 #[.val (.ref a1)] [(.int (0 : Int32))])
      refine own_retZ X10 hx hlk Bd.returns (by decide) (hb hby d20_25) e10 (by decide) (by decide) ?_
      exact ⟨rfl, N0, rfl⟩
theorem ef_19 (m : MethodId) (a1 : Addr) (z1 : Int32) : entryFrame m #[(.ref a1), (.int z1)] 3 = mkF m 0 #[.val (.ref a1), .val (.int z1), .unset] [] := by first | (simp [entryFrame, mkF, argsToLocals, Value.category]; done) | rfl
set_option maxRecDepth 65536 in
set_option maxHeartbeats 40000000 in
theorem rm19 (l : Launch) (Z : State) (a0 : Array Value) (hw : ∀ d ∈ tables_1, d.before a0 Z = true) (ws : List Jvm.Cond) (a1 : Addr) (z1 : Int32) (aH : Addr) (aF : Addr) (h0 : Heap) (n0 : Nat) (Z0 : n0 ≤ h0.size) (S_H : Sta Z h0 "com/example/hedgewalk/hedgewalk/eval/Verdict" "HOLDS" "Ljava/lang/Object;" (.ref aH)) (S_F : Sta Z h0 "com/example/hedgewalk/hedgewalk/eval/Verdict" "FAILS" "Ljava/lang/Object;" (.ref aF)) (E_a1 : Exa Z h0 a1 "com/example/hedgewalk/hedgewalk/eval/Verdict$Told") (F_w : Fld Z h0 a1 "com/example/hedgewalk/hedgewalk/eval/Verdict" "waiting" "Ljava/lang/Object;" .null) (g_a1 : n0 ≤ a1) :
    MetFree l (⟨"com/example/hedgewalk/hedgewalk/eval/Verdict", "settle", "(Z)Ljava/lang/Object;"⟩ : MethodName) (head1 (Jvm.Cond.code (⟨"com/example/hedgewalk/hedgewalk/eval/Verdict", "settle", "(Z)Ljava/lang/Object;"⟩ : MethodName) prog_78_method_12_code 3 (some (.object "java/lang/Object")) :: ws) ({ frames := 1, cells := 0, slots := 0, locals := 14 } : Room)) (fun a U => a = #[(.ref a1), (.int z1)] ∧ Z.Warmed39 U.vm ∧ U.heap = h0) (fun _ _ _ _ _ => True) (fun _ U o U' => ∃ v L, o = .returned v ∧ QS Z a1 aH aF (some .null) h0 n0 v U'.heap L ∧ FrameEnd U o U' L ({ frames := 1, cells := 0, slots := 0, locals := 14 } : Room).cells ({ frames := 1, cells := 0, slots := 0, locals := 14 } : Room).slots) := by
  refine MetFree.of_bodySF (plainFor_of_name pn_6) hisR ?_
  intro p e s m args below meth c s₁ Bd hml0 hP hK
  obtain ⟨rfl, hZ, hh⟩ := hP
  have hx := Bd.exec
  have hby := Bd.bytes
  have hml : c.maxLocals = 3 := hml0
  have hown : s.vm.findClass "com/example/hedgewalk/hedgewalk/eval/Verdict" = some m.cls := findClass_of_methodNamed Bd.named
  have hnm := (name_of_methodNamed Bd.named Bd.method).1
  have hlk : meth.locks = false := BodyLoose.notSynchronized Bd
  have X0 : Stand p l e ({ frames := 1, cells := 0, slots := 0, locals := 14 } : Room) s m #[(.ref a1), (.int z1)] below meth c s₁ [] 0 0 := Stand.of_body Bd
  have e0 : s₁.heap = h0 := by rw [← hh, Bd.state]; rfl
  have N0 := Fr.nil n0
  refine own_start (Q := QS Z a1 aH aF (some .null) h0 n0) (ef_19 m a1 z1) ?_
  have K0 := Keep.refl h0 [a1]
  show own_Go p e below _ s₁ (mkF m 0 #[.val (.ref a1), .val (.int z1), .unset] [])
  refine own_by (fun t_ k_ => XS.aconstNull X0.here hx rfl (hb hby d19_0) k_) ?_
  show own_Go p e below _ s₁ (mkF m 1 #[.val (.ref a1), .val (.int z1), .unset] [.null])
  refine own_by (fun t_ k_ => XS.astoreN X0.here hx rfl (hb hby d19_1) rfl rfl (l' := #[.val (.ref a1), .val (.int z1), .val .null]) rfl k_) ?_
  show own_Go p e below _ s₁ (mkF m 2 #[.val (.ref a1), .val (.int z1), .val .null] [])
  refine own_by (fun t_ k_ => XS.aloadN X0.here hx rfl (hb hby d19_2) rfl rfl k_) ?_
  show own_Go p e below _ s₁ (mkF m 3 #[.val (.ref a1), .val (.int z1), .val .null] [(.ref a1)])
  refine own_callV (W := 0) X0 hx hZ (y := (⟨"com/example/hedgewalk/hedgewalk/eval/Verdict", "isOpen", "()Z"⟩ : MethodName)) (z := (⟨"com/example/hedgewalk/hedgewalk/eval/Verdict", "isOpen", "()Z"⟩ : MethodName)) hown (own_w hw 125 rfl) (own_w hw 126 rfl) (notFace_of_selects (args := #[]) (mvT hZ (own_w hw 128 rfl))) (own_w hw 128 rfl) (own_w hw 127 rfl) (own_w hw 42 rfl) (own_w hw 129 rfl) (by decide) (by rw [hml]; rfl) (argsL := []) pd_2 rfl (a := a1) e0 E_a1 (rm20 l Z a0 hw [] a1 aH aF .null 1 h0 n0 Z0 S_H S_F F_w (Or.inl ⟨rfl, rfl⟩)) (by decide) (by decide) (Nat.le_of_eq rfl) (by decide) (by decide) (rest := []) rfl (hb hby d19_3) ?_
  intro v1 T1 L1 X1 hQ1
  obtain ⟨rfl, N1q, e1⟩ := hQ1
  have N1 := Fr.app N0 N1q
  show own_Go p e below _ T1 (mkF m 6 #[.val (.ref a1), .val (.int z1), .val .null] [(.int (1 : Int32))])
  refine own_if X1 hx 31 (hb hby d19_6) (by decide) (by decide) (fun hc => absurd (show ¬ (1 : Int32) = (0 : Int32) from by decide) (by first | exact hc | exact not_not_intro hc)) (fun _ => ?_)
  show own_Go p e below _ T1 (mkF m 9 #[.val (.ref a1), .val (.int z1), .val .null] [])
  refine own_by (fun t_ k_ => XS.aloadN X1.here hx rfl (hb hby d19_9) rfl rfl k_) ?_
  show own_Go p e below _ T1 (mkF m 10 #[.val (.ref a1), .val (.int z1), .val .null] [(.ref a1)])
  refine own_getF X1 hx hZ hown (own_w hw 48 rfl) Via.refl e1 F_w (hb hby d19_10) ?_
  intro T2 X2 e2
  show own_Go p e below _ T2 (mkF m 13 #[.val (.ref a1), .val (.int z1), .val .null] [.null])
  refine own_by (fun t_ k_ => XS.astoreN X2.here hx rfl (hb hby d19_13) rfl rfl (l' := #[.val (.ref a1), .val (.int z1), .val .null]) rfl k_) ?_
  show own_Go p e below _ T2 (mkF m 14 #[.val (.ref a1), .val (.int z1), .val .null] [])
  refine own_by (fun t_ k_ => XS.aloadN X2.here hx rfl (hb hby d19_14) rfl rfl k_) ?_
  show own_Go p e below _ T2 (mkF m 15 #[.val (.ref a1), .val (.int z1), .val .null] [(.ref a1)])
  refine own_by (fun t_ k_ => XS.iloadN X2.here hx rfl (hb hby d19_15) rfl k_) ?_
  show own_Go p e below _ T2 (mkF m 16 #[.val (.ref a1), .val (.int z1), .val .null] [(.int z1), (.ref a1)])
  refine own_if X2 hx 25 (hb hby d19_16) (by decide) (by decide) (fun (hc16 : z1 = (0 : Int32)) => ?_) (fun (hc16 : ¬ z1 = (0 : Int32)) => ?_)
  · show own_Go p e below _ T2 (mkF m 25 #[.val (.ref a1), .val (.int z1), .val .null] [(.ref a1)])
    refine own_getS X2 hx hZ hown (own_w hw 132 rfl) Via.refl e2 S_F (hb hby d19_25) ?_
    intro T3 X3 e3
    show own_Go p e below _ T3 (mkF m 28 #[.val (.ref a1), .val (.int z1), .val .null] [(.ref aF), (.ref a1)])
    refine own_putF X3 hx hZ hown (own_w hw 48 rfl) Via.refl e3 F_w E_a1 (Or.inl (own_w hw 49 rfl)) (own_w hw 34 rfl) (ty := (.object "java/lang/Object")) (by decide) rfl rfl (hb hby d19_28) ?_
    intro T4 h4 X4 e4 W4
    have F4 := Fld.same W4 F_w
    have N4 := Fr.snoc X4 N1 g_a1
    have sz4 : n0 ≤ h4.size := Nat.le_trans Z0 (Keep.of_wr W4).1
    have K4 : Keep h0 h4 [a1] := K0.wr W4 (Or.inl (List.mem_cons_self ..))
    show own_Go p e below _ T4 (mkF m 31 #[.val (.ref a1), .val (.int z1), .val .null] [])
    refine own_by (fun t_ k_ => XS.aloadN X4.here hx rfl (hb hby d19_31) rfl rfl k_) ?_
    show own_Go p e below _ T4 (mkF m 32 #[.val (.ref a1), .val (.int z1), .val .null] [.null])
    refine own_retR X4 hx hlk Bd.returns rfl rfl rfl (hb hby d19_32) e4 (by decide) (by decide) ?_
    have E_a1_5 : Exa Z h4 a1 "com/example/hedgewalk/hedgewalk/eval/Verdict$Told" := (Exa.wr W4 E_a1)
    exact ⟨rfl, N4, K4, E_a1_5, _, F4, Or.inr rfl⟩
  · show own_Go p e below _ T2 (mkF m 19 #[.val (.ref a1), .val (.int z1), .val .null] [(.ref a1)])
    refine own_getS X2 hx hZ hown (own_w hw 130 rfl) Via.refl e2 S_H (hb hby d19_19) ?_
    intro T6 X6 e6
    show own_Go p e below _ T6 (mkF m 22 #[.val (.ref a1), .val (.int z1), .val .null] [(.ref aH), (.ref a1)])
    refine own_by (fun t_ k_ => XS.goto X6.here hx rfl (pc0 := 22) (pc' := 28) rfl (hb hby d19_22) (by decide) (by decide) k_) ?_
    show own_Go p e below _ T6 (mkF m 28 #[.val (.ref a1), .val (.int z1), .val .null] [(.ref aH), (.ref a1)])
    refine own_putF X6 hx hZ hown (own_w hw 48 rfl) Via.refl e6 F_w E_a1 (Or.inl (own_w hw 49 rfl)) (own_w hw 34 rfl) (ty := (.object "java/lang/Object")) (by decide) rfl rfl (hb hby d19_28) ?_
    intro T7 h7 X7 e7 W7
    have F7 := Fld.same W7 F_w
    have N7 := Fr.snoc X7 N1 g_a1
    have sz7 : n0 ≤ h7.size := Nat.le_trans Z0 (Keep.of_wr W7).1
    have K7 : Keep h0 h7 [a1] := K0.wr W7 (Or.inl (List.mem_cons_self ..))
    show own_Go p e below _ T7 (mkF m 31 #[.val (.ref a1), .val (.int z1), .val .null] [])
    refine own_by (fun t_ k_ => XS.aloadN X7.here hx rfl (hb hby d19_31) rfl rfl k_) ?_
    show own_Go p e below _ T7 (mkF m 32 #[.val (.ref a1), .val (.int z1), .val .null] [.null])
    refine own_retR X7 hx hlk Bd.returns rfl rfl rfl (hb hby d19_32) e7 (by decide) (by decide) ?_
    have E_a1_8 : Exa Z h7 a1 "com/example/hedgewalk/hedgewalk/eval/Verdict$Told" := (Exa.wr W7 E_a1)
    exact ⟨rfl, N7, K7, E_a1_8, _, F7, Or.inl rfl⟩
theorem ef_18 (m : MethodId) (a1 : Addr) (a2 : Addr) (z1 : Int32) : entryFrame m #[(.ref a1), (.ref a2), (.int z1)] 4 = mkF m 0 #[.val (.ref a1), .val (.ref a2), .val (.int z1), .unset] [] := by first | (simp [entryFrame, mkF, argsToLocals, Value.category]; done) | rfl
set_option maxRecDepth 65536 in
set_option maxHeartbeats 40000000 in
theorem rm18 (l : Launch) (Z : State) (a0 : Array Value) (hw : ∀ d ∈ tables_1, d.before a0 Z = true) (ws : List Jvm.Cond) (a1 : Addr) (a2 : Addr) (z1 : Int32) (aH : Addr) (aF : Addr) (h0 : Heap) (n0 : Nat) (Z0 : n0 ≤ h0.size) (S_H : Sta Z h0 "com/example/hedgewalk/hedgewalk/eval/Verdict" "HOLDS" "Ljava/lang/Object;" (.ref aH)) (S_F : Sta Z h0 "com/example/hedgewalk/hedgewalk/eval/Verdict" "FAILS" "Ljava/lang/Object;" (.ref aF)) (E_a2 : Exa Z h0 a2 "com/example/hedgewalk/hedgewalk/eval/Verdict$Told") (F_w : Fld Z h0 a2 "com/example/hedgewalk/hedgewalk/eval/Verdict" "waiting" "Ljava/lang/Object;" .null) (g_a2 : n0 ≤ a2) (E_a1 : Exa Z h0 a1 "com/example/hedgewalk/hedgewalk/eval/Agenda") :
    MetFree l (⟨"com/example/hedgewalk/hedgewalk/eval/Agenda", "settle", "(Lcom/example/hedgewalk/hedgewalk/eval/Verdict;Z)V"⟩ : MethodName) (head1 (Jvm.Cond.code (⟨"com/example/hedgewalk/hedgewalk/eval/Agenda", "settle", "(Lcom/example/hedgewalk/hedgewalk/eval/Verdict;Z)V"⟩ : MethodName) prog_29_method_2_code 4 none :: ws) ({ frames := 2, cells := 0, slots := 0, locals := 30 } : Room)) (fun a U => a = #[(.ref a1), (.ref a2), (.int z1)] ∧ Z.Warmed39 U.vm ∧ U.heap = h0) (fun _ _ _ _ _ => True) (fun _ U o U' => ∃ v L, o = .returned v ∧ QS Z a2 aH aF none h0 n0 v U'.heap L ∧ FrameEnd U o U' L ({ frames := 2, cells := 0, slots := 0, locals := 30 } : Room).cells ({ frames := 2, cells := 0, slots := 0, locals := 30 } : Room).slots) := by
  refine MetFree.of_bodySF (plainFor_of_name pn_1) hisR ?_
  intro p e s m args below meth c s₁ Bd hml0 hP hK
  obtain ⟨rfl, hZ, hh⟩ := hP
  have hx := Bd.exec
  have hby := Bd.bytes
  have hml : c.maxLocals = 4 := hml0
  have hown : s.vm.findClass "com/example/hedgewalk/hedgewalk/eval/Agenda" = some m.cls := findClass_of_methodNamed Bd.named
  have hnm := (name_of_methodNamed Bd.named Bd.method).1
  have hlk : meth.locks = false := BodyLoose.notSynchronized Bd
  have X0 : Stand p l e ({ frames := 2, cells := 0, slots := 0, locals := 30 } : Room) s m #[(.ref a1), (.ref a2), (.int z1)] below meth c s₁ [] 0 0 := Stand.of_body Bd
  have e0 : s₁.heap = h0 := by rw [← hh, Bd.state]; rfl
  have N0 := Fr.nil n0
  refine own_start (Q := QS Z a2 aH aF none h0 n0) (ef_18 m a1 a2 z1) ?_
  have K0 := Keep.refl h0 [a2]
  show own_Go p e below _ s₁ (mkF m 0 #[.val (.ref a1), .val (.ref a2), .val (.int z1), .unset] [])
  refine own_by (fun t_ k_ => XS.aloadN X0.here hx rfl (hb hby d18_0) rfl rfl k_) ?_
  show own_Go p e below _ s₁ (mkF m 1 #[.val (.ref a1), .val (.ref a2), .val (.int z1), .unset] [(.ref a2)])
  refine own_by (fun t_ k_ => XS.iloadN X0.here hx rfl (hb hby d18_1) rfl k_) ?_
  show own_Go p e below _ s₁ (mkF m 2 #[.val (.ref a1), .val (.ref a2), .val (.int z1), .unset] [(.int z1), (.ref a2)])
  refine own_callV (W := 0) X0 hx hZ (y := (⟨"com/example/hedgewalk/hedgewalk/eval/Verdict", "settle", "(Z)Ljava/lang/Object;"⟩ : MethodName)) (z := (⟨"com/example/hedgewalk/hedgewalk/eval/Verdict", "settle", "(Z)Ljava/lang/Object;"⟩ : MethodName)) hown (own_w hw 120 rfl) (own_w hw 121 rfl) (notFace_of_selects (args := #[]) (mvT hZ (own_w hw 123 rfl))) (own_w hw 123 rfl) (own_w hw 122 rfl) (own_w hw 42 rfl) (own_w hw 124 rfl) (by decide) (by rw [hml]; rfl) (argsL := [(.int z1)]) pd_12 rfl (a := a2) e0 E_a2 (rm19 l Z a0 hw [] a2 z1 aH aF h0 n0 Z0 S_H S_F E_a2 F_w g_a2) (by decide) (by decide) (Nat.le_of_eq rfl) (by decide) (by decide) (rest := []) rfl (hb hby d18_2) ?_
  intro v1 T1 L1 X1 hQ1
  obtain ⟨rfl, N1q, K1q, E1, w1, F1, hw1⟩ := hQ1
  have N1 := Fr.app N0 N1q
  have sz1 : n0 ≤ T1.heap.size := Nat.le_trans Z0 K1q.1
  have K1 : Keep h0 T1.heap [a2] := K0.trans K1q (allS (Or.inl (List.mem_cons_self ..)) all0)
  show own_Go p e below _ T1 (mkF m 5 #[.val (.ref a1), .val (.ref a2), .val (.int z1), .unset] [.null])
  refine own_by (fun t_ k_ => XS.astoreN X1.here hx rfl (hb hby d18_5) rfl rfl (l' := #[.val (.ref a1), .val (.ref a2), .val (.int z1), .val .null]) rfl k_) ?_
  show own_Go p e below _ T1 (mkF m 6 #[.val (.ref a1), .val (.ref a2), .val (.int z1), .val .null] [])
  refine own_by (fun t_ k_ => XS.aloadN X1.here hx rfl (hb hby d18_6) rfl rfl k_) ?_
  show own_Go p e below _ T1 (mkF m 7 #[.val (.ref a1), .val (.ref a2), .val (.int z1), .val .null] [.null])
  refine own_by (fun t_ k_ => XS.ifnullYes X1.here hx rfl (pc0 := 7) (pc' := 31) rfl (hb hby d18_7) rfl (by decide) (by decide) k_) ?_
  show own_Go p e below _ T1 (mkF m 31 #[.val (.ref a1), .val (.ref a2), .val (.int z1), .val .null] [])
  refine own_retV X1 hx hlk Bd.returns (hb hby d18_31) rfl (by decide) (by decide) ?_
  exact ⟨rfl, N1, K1, E1, _, F1, hw1⟩
theorem ef_17 (m : MethodId) (a1 : Addr) (z1 : Int32) (a2 : Addr) : entryFrame m #[(.ref a1), (.int z1), (.ref a2)] 3 = mkF m 0 #[.val (.ref a1), .val (.int z1), .val (.ref a2)] [] := by first | (simp [entryFrame, mkF, argsToLocals, Value.category]; done) | rfl
set_option maxRecDepth 65536 in
set_option maxHeartbeats 40000000 in
theorem rm17 (l : Launch) (Z : State) (a0 : Array Value) (hw : ∀ d ∈ tables_1, d.before a0 Z = true) (ws : List Jvm.Cond) (a1 : Addr) (z1 : Int32) (a2 : Addr) (aH : Addr) (aF : Addr) (h0 : Heap) (n0 : Nat) (Z0 : n0 ≤ h0.size) (S_H : Sta Z h0 "com/example/hedgewalk/hedgewalk/eval/Verdict" "HOLDS" "Ljava/lang/Object;" (.ref aH)) (S_F : Sta Z h0 "com/example/hedgewalk/hedgewalk/eval/Verdict" "FAILS" "Ljava/lang/Object;" (.ref aF)) (E_a1 : Exa Z h0 a1 "com/example/hedgewalk/hedgewalk/eval/Verdict$Told") (F_w : Fld Z h0 a1 "com/example/hedgewalk/hedgewalk/eval/Verdict" "waiting" "Ljava/lang/Object;" .null) (g_a1 : n0 ≤ a1) (E_a2 : Exa Z h0 a2 "com/example/hedgewalk/hedgewalk/eval/Agenda") :
    MetFree l (⟨"com/example/hedgewalk/hedgewalk/eval/Verdict$Told", "settled", "(ZLcom/example/hedgewalk/hedgewalk/eval/Agenda;)V"⟩ : MethodName) (head1 (Jvm.Cond.code (⟨"com/example/hedgewalk/hedgewalk/eval/Verdict$Told", "settled", "(ZLcom/example/hedgewalk/hedgewalk/eval/Agenda;)V"⟩ : MethodName) prog_84_method_2_code 3 none :: ws) ({ frames := 3, cells := 0, slots := 0, locals := 48 } : Room)) (fun a U => a = #[(.ref a1), (.int z1), (.ref a2)] ∧ Z.Warmed39 U.vm ∧ U.heap = h0) (fun _ _ _ _ _ => True) (fun _ U o U' => ∃ v L, o = .returned v ∧ QS Z a1 aH aF none h0 n0 v U'.heap L ∧ FrameEnd U o U' L ({ frames := 3, cells := 0, slots := 0, locals := 48 } : Room).cells ({ frames := 3, cells := 0, slots := 0, locals := 48 } : Room).slots) := by
  refine MetFree.of_bodySF (plainFor_of_name pn_5) hisR ?_
  intro p e s m args below meth c s₁ Bd hml0 hP hK
  obtain ⟨rfl, hZ, hh⟩ := hP
  have hx := Bd.exec
  have hby := Bd.bytes
  have hml : c.maxLocals = 3 := hml0
  have hown : s.vm.findClass "com/example/hedgewalk/hedgewalk/eval/Verdict$Told" = some m.cls := findClass_of_methodNamed Bd.named
  have hnm := (name_of_methodNamed Bd.named Bd.method).1
  have hlk : meth.locks = false := BodyLoose.notSynchronized Bd
  have X0 : Stand p l e ({ frames := 3, cells := 0, slots := 0, locals := 48 } : Room) s m #[(.ref a1), (.int z1), (.ref a2)] below meth c s₁ [] 0 0 := Stand.of_body Bd
  have e0 : s₁.heap = h0 := by rw [← hh, Bd.state]; rfl
  have N0 := Fr.nil n0
  refine own_start (Q := QS Z a1 aH aF none h0 n0) (ef_17 m a1 z1 a2) ?_
  have K0 := Keep.refl h0 [a1]
  show own_Go p e below _ s₁ (mkF m 0 #[.val (.ref a1), .val (.int z1), .val (.ref a2)] [])
  refine own_by (fun t_ k_ => XS.aloadN X0.here hx rfl (hb hby d17_0) rfl rfl k_) ?_
  show own_Go p e below _ s₁ (mkF m 1 #[.val (.ref a1), .val (.int z1), .val (.ref a2)] [(.ref a2)])
  refine own_by (fun t_ k_ => XS.aloadN X0.here hx rfl (hb hby d17_1) rfl rfl k_) ?_
  show own_Go p e below _ s₁ (mkF m 2 #[.val (.ref a1), .val (.int z1), .val (.ref a2)] [(.ref a1), (.ref a2)])
  refine own_by (fun t_ k_ => XS.iloadN X0.here hx rfl (hb hby d17_2) rfl k_) ?_
  show own_Go p e below _ s₁ (mkF m 3 #[.val (.ref a1), .val (.int z1), .val (.ref a2)] [(.int z1), (.ref a1), (.ref a2)])
  refine own_callV (W := 0) X0 hx hZ (y := (⟨"com/example/hedgewalk/hedgewalk/eval/Agenda", "settle", "(Lcom/example/hedgewalk/hedgewalk/eval/Verdict;Z)V"⟩ : MethodName)) (z := (⟨"com/example/hedgewalk/hedgewalk/eval/Agenda", "settle", "(Lcom/example/hedgewalk/hedgewalk/eval/Verdict;Z)V"⟩ : MethodName)) hown (own_w hw 115 rfl) (own_w hw 116 rfl) (notFace_of_selects (args := #[]) (mvT hZ (own_w hw 118 rfl))) (own_w hw 118 rfl) (own_w hw 117 rfl) (own_w hw 5 rfl) (own_w hw 119 rfl) (by decide) (by rw [hml]; rfl) (argsL := [(.ref a1), (.int z1)]) pd_11 rfl (a := a2) e0 E_a2 (rm18 l Z a0 hw [] a2 a1 z1 aH aF h0 n0 Z0 S_H S_F E_a1 F_w g_a1 E_a2) (by decide) (by decide) (Nat.le_of_eq rfl) (by decide) (by decide) (rest := []) rfl (hb hby d17_3) ?_
  intro v1 T1 L1 X1 hQ1
  obtain ⟨rfl, N1q, K1q, E1, w1, F1, hw1⟩ := hQ1
  have N1 := Fr.app N0 N1q
  have sz1 : n0 ≤ T1.heap.size := Nat.le_trans Z0 K1q.1
  have K1 : Keep h0 T1.heap [a1] := K0.trans K1q (allS (Or.inl (List.mem_cons_self ..)) all0)
  show own_Go p e below _ T1 (mkF m 6 #[.val (.ref a1), .val (.int z1), .val (.ref a2)] [])
  refine own_retV X1 hx hlk Bd.returns (hb hby d17_6) rfl (by decide) (by decide) ?_
  exact ⟨rfl, N1, K1, E1, _, F1, hw1⟩
theorem ef_15 (m : MethodId) (x1 : Int32) (x2 : Int32) : entryFrame m #[(.int x1), (.int x2)] 2 = mkF m 0 #[.val (.int x1), .val (.int x2)] [] := by first | (simp [entryFrame, mkF, argsToLocals, Value.category]; done) | rfl
set_option maxRecDepth 65536 in
set_option maxHeartbeats 40000000 in
theorem rm15 (l : Launch) (Z : State) (a0 : Array Value) (hw : ∀ d ∈ tables_1, d.before a0 Z = true) (ws : List Jvm.Cond) (x1 : Int32) (x2 : Int32) (h0 : Heap) (n0 : Nat) (Z0 : n0 ≤ h0.size) :
    MetFree l (⟨"java/lang/Math", "min", "(II)I"⟩ : MethodName) (head1 (Jvm.Cond.code (⟨"java/lang/Math", "min", "(II)I"⟩ : MethodName) jdk_29_method_69_code 2 (some .int) :: ws) ({ frames := 0, cells := 0, slots := 0, locals := 0 } : Room)) (fun a U => a = #[(.int x1), (.int x2)] ∧ Z.Warmed39 U.vm ∧ U.heap = h0) (fun _ _ _ _ _ => True) (fun _ U o U' => ∃ v L, o = .returned v ∧ QI (own_min x1 x2) h0 n0 v U'.heap L ∧ FrameEnd U o U' L ({ frames := 0, cells := 0, slots := 0, locals := 0 } : Room).cells ({ frames := 0, cells := 0, slots := 0, locals := 0 } : Room).slots) := by
  refine MetFree.of_bodySF (Jvm.Free.JP.mathPlain rfl (by decide +kernel)) hisR ?_
  intro p e s m args below meth c s₁ Bd hml0 hP hK
  obtain ⟨rfl, hZ, hh⟩ := hP
  have hx := Bd.exec
  have hby := Bd.bytes
  have hml : c.maxLocals = 2 := hml0
  have hown : s.vm.findClass "java/lang/Math" = some m.cls := findClass_of_methodNamed Bd.named
  have hnm := (name_of_methodNamed Bd.named Bd.method).1
  have hlk : meth.locks = false := BodyLoose.notSynchronized Bd
  have X0 : Stand p l e ({ frames := 0, cells := 0, slots := 0, locals := 0 } : Room) s m #[(.int x1), (.int x2)] below meth c s₁ [] 0 0 := Stand.of_body Bd
  have e0 : s₁.heap = h0 := by rw [← hh, Bd.state]; rfl
  have N0 := Fr.nil n0
  refine own_start (Q := QI (own_min x1 x2) h0 n0) (ef_15 m x1 x2) ?_
  show own_Go p e below _ s₁ (mkF m 0 #[.val (.int x1), .val (.int x2)] [])
  refine own_by (fun t_ k_ => XS.iloadN X0.here hx rfl (hb hby d15_0) rfl k_) ?_
  show own_Go p e below _ s₁ (mkF m 1 #[.val (.int x1), .val (.int x2)] [(.int x1)])
  refine own_by (fun t_ k_ => XS.iloadN X0.here hx rfl (hb hby d15_1) rfl k_) ?_
  show own_Go p e below _ s₁ (mkF m 2 #[.val (.int x1), .val (.int x2)] [(.int x2), (.int x1)])
  refine own_icmp X0 hx 9 (hb hby d15_2) (by decide) (by decide) (fun (hc2 : x2 < x1) => ?_) (fun (hc2 : ¬ x2 < x1) => ?_)
  · show own_Go p e below _ s₁ (mkF m 9 #[.val (.int x1), .val (.int x2)] [])
    refine own_by (fun t_ k_ => XS.iloadN X0.here hx rfl (hb hby d15_9) rfl k_) ?_
    show own_Go p e below _ s₁ (mkF m 10 #[.val (.int x1), .val (.int x2)] [(.int x2)])
    refine own_retI X0 hx hlk Bd.returns (hb hby d15_10) e0 (by decide) (by decide) ?_
    exact ⟨by rw [own_min, if_pos hc2], N0, rfl⟩
  · show own_Go p e below _ s₁ (mkF m 5 #[.val (.int x1), .val (.int x2)] [])
    refine own_by (fun t_ k_ => XS.iloadN X0.here hx rfl (hb hby d15_5) rfl k_) ?_
    show own_Go p e below _ s₁ (mkF m 6 #[.val (.int x1), .val (.int x2)] [(.int x1)])
    refine own_by (fun t_ k_ => XS.goto X0.here hx rfl (pc0 := 6) (pc' := 10) rfl (hb hby d15_6) (by decide) (by decide) k_) ?_
    show own_Go p e below _ s₁ (mkF m 10 #[.val (.int x1), .val (.int x2)] [(.int x1)])
    refine own_retI X0 hx hlk Bd.returns (hb hby d15_10) e0 (by decide) (by decide) ?_
    exact ⟨by rw [own_min, if_neg hc2], N0, rfl⟩
theorem ef_10 (m : MethodId) (x1 : Int32) (y1 : Int64) : entryFrame m #[(.int x1), (.long y1)] 3 = mkF m 0 #[.val (.int x1), .val (.long y1), .second] [] := by first | (simp [entryFrame, mkF, argsToLocals, Value.category]; done) | rfl
set_option maxRecDepth 65536 in
set_option maxHeartbeats 40000000 in
theorem rm10 (l : Launch) (Z : State) (a0 : Array Value) (hw : ∀ d ∈ tables_1, d.before a0 Z = true) (ws : List Jvm.Cond) (x1 : Int32) (y1 : Int64) (h0 : Heap) (n0 : Nat) (Z0 : n0 ≤ h0.size) :
    MetFree l (⟨"com/example/hedgewalk/hedgewalk/eval/GoalQueueHasOpenPinLaw", "limit", "(IJ)J"⟩ : MethodName) (head1 (Jvm.Cond.code (⟨"com/example/hedgewalk/hedgewalk/eval/GoalQueueHasOpenPinLaw", "limit", "(IJ)J"⟩ : MethodName) method_2_code 3 (some .long) :: ws) ({ frames := 0, cells := 0, slots := 0, locals := 0 } : Room)) (fun a U => a = #[(.int x1), (.long y1)] ∧ Z.Warmed39 U.vm ∧ U.heap = h0) (fun _ _ _ _ _ => True) (fun _ U o U' => ∃ v L, o = .returned v ∧ QL h0 n0 v U'.heap L ∧ FrameEnd U o U' L ({ frames := 0, cells := 0, slots := 0, locals := 0 } : Room).cells ({ frames := 0, cells := 0, slots := 0, locals := 0 } : Room).slots) := by
  refine MetFree.of_bodySF (plainFor_of_name pn_0) hisR ?_
  intro p e s m args below meth c s₁ Bd hml0 hP hK
  obtain ⟨rfl, hZ, hh⟩ := hP
  have hx := Bd.exec
  have hby := Bd.bytes
  have hml : c.maxLocals = 3 := hml0
  have hown : s.vm.findClass "com/example/hedgewalk/hedgewalk/eval/GoalQueueHasOpenPinLaw" = some m.cls := findClass_of_methodNamed Bd.named
  have hnm := (name_of_methodNamed Bd.named Bd.method).1
  have hlk : meth.locks = false := BodyLoose.notSynchronized Bd
  have X0 : Stand p l e ({ frames := 0, cells := 0, slots := 0, locals := 0 } : Room) s m #[(.int x1), (.long y1)] below meth c s₁ [] 0 0 := Stand.of_body Bd
  have e0 : s₁.heap = h0 := by rw [← hh, Bd.state]; rfl
  have N0 := Fr.nil n0
  refine own_start (Q := QL h0 n0) (ef_10 m x1 y1) ?_
  show own_Go p e below _ s₁ (mkF m 0 #[.val (.int x1), .val (.long y1), .second] [])
  refine own_by (fun t_ k_ => XS.iloadN X0.here hx rfl (hb hby d10_0) rfl k_) ?_
  show own_Go p e below _ s₁ (mkF m 1 #[.val (.int x1), .val (.long y1), .second] [(.int x1)])
  refine own_by (fun t_ k_ => XS.iconst X0.here hx rfl (hb hby d10_1) k_) ?_
  show own_Go p e below _ s₁ (mkF m 2 #[.val (.int x1), .val (.long y1), .second] [(.int (1 : Int32)), (.int x1)])
  refine own_by (fun t_ k_ => XS.iand X0.here hx rfl (hb hby d10_2) rfl k_) ?_
  show own_Go p e below _ s₁ (mkF m 3 #[.val (.int x1), .val (.long y1), .second] [(.int (x1 &&& (1 : Int32)))])
  refine own_if X0 hx 8 (hb hby d10_3) (by decide) (by decide) (fun (hc3 : (x1 &&& (1 : Int32)) = (0 : Int32)) => ?_) (fun (hc3 : ¬ (x1 &&& (1 : Int32)) = (0 : Int32)) => ?_)
  · show own_Go p e below _ s₁ (mkF m 8 #[.val (.int x1), .val (.long y1), .second] [])
    refine own_by (fun t_ k_ => XT.lloadN X0.here hx rfl (hb hby d10_8) rfl k_) ?_
    show own_Go p e below _ s₁ (mkF m 9 #[.val (.int x1), .val (.long y1), .second] [(.long y1)])
    refine own_by (fun t_ k_ => X0.ldc2Long hx hown (mvT hZ (own_w hw 80 rfl)) (g := (mkF m 9 #[.val (.int x1), .val (.long y1), .second] [(.long y1)])) rfl (hb hby d10_9) _ k_) ?_
    show own_Go p e below _ s₁ (mkF m 12 #[.val (.int x1), .val (.long y1), .second] [(.long (12 : Int64)), (.long y1)])
    refine own_by (fun t_ k_ => XT.lrem X0.here hx rfl (hb hby d10_12) rfl (by decide) k_) ?_
    show own_Go p e below _ s₁ (mkF m 13 #[.val (.int x1), .val (.long y1), .second] [(.long (y1 - (y1 / (12 : Int64)) * (12 : Int64)))])
    refine own_retJ X0 hx hlk Bd.returns (hb hby d10_13) e0 (by decide) (by decide) ?_
    exact ⟨_, rfl, N0, rfl⟩
  · show own_Go p e below _ s₁ (mkF m 6 #[.val (.int x1), .val (.long y1), .second] [])
    refine own_by (fun t_ k_ => XT.lloadN X0.here hx rfl (hb hby d10_6) rfl k_) ?_
    show own_Go p e below _ s₁ (mkF m 7 #[.val (.int x1), .val (.long y1), .second] [(.long y1)])
    refine own_retJ X0 hx hlk Bd.returns (hb hby d10_7) e0 (by decide) (by decide) ?_
    exact ⟨_, rfl, N0, rfl⟩
theorem ef_4 (m : MethodId) (a1 : Addr) : entryFrame m #[(.ref a1)] 1 = mkF m 0 #[.val (.ref a1)] [] := by first | (simp [entryFrame, mkF, argsToLocals, Value.category]; done) | rfl
set_option maxRecDepth 65536 in
set_option maxHeartbeats 40000000 in
theorem rm4 (l : Launch) (Z : State) (a0 : Array Value) (hw : ∀ d ∈ tables_1, d.before a0 Z = true) (ws : List Jvm.Cond) (a1 : Addr) (h0 : Heap) (n0 : Nat) (Z0 : n0 ≤ h0.size) :
    MetFree l (⟨"java/util/AbstractCollection", "<init>", "()V"⟩ : MethodName) (head1 (Jvm.Cond.code (⟨"java/util/AbstractCollection", "<init>", "()V"⟩ : MethodName) jdk_22_method_1_code 1 none :: ws) ({ frames := 1, cells := 0, slots := 0, locals := 12 } : Room)) (fun a U => a = #[(.ref a1)] ∧ Z.Warmed39 U.vm ∧ U.heap = h0) (fun _ _ _ _ _ => True) (fun _ U o U' => ∃ v L, o = .returned v ∧ QN h0 n0 v U'.heap L ∧ FrameEnd U o U' L ({ frames := 1, cells := 0, slots := 0, locals := 12 } : Room).cells ({ frames := 1, cells := 0, slots := 0, locals := 12 } : Room).slots) := by
  refine MetFree.of_bodySF (plainFor_of_name pn_4) hisR ?_
  intro p e s m args below meth c s₁ Bd hml0 hP hK
  obtain ⟨rfl, hZ, hh⟩ := hP
  have hx := Bd.exec
  have hby := Bd.bytes
  have hml : c.maxLocals = 1 := hml0
  have hown : s.vm.findClass "java/util/AbstractCollection" = some m.cls := findClass_of_methodNamed Bd.named
  have hnm := (name_of_methodNamed Bd.named Bd.method).1
  have hlk : meth.locks = false := BodyLoose.notSynchronized Bd
  have X0 : Stand p l e ({ frames := 1, cells := 0, slots := 0, locals := 12 } : Room) s m #[(.ref a1)] below meth c s₁ [] 0 0 := Stand.of_body Bd
  have e0 : s₁.heap = h0 := by rw [← hh, Bd.state]; rfl
  have N0 := Fr.nil n0
  refine own_start (Q := QN h0 n0) (ef_4 m a1) ?_
  show own_Go p e below _ s₁ (mkF m 0 #[.val (.ref a1)] [])
  refine own_by (fun t_ k_ => XS.aloadN X0.here hx rfl (hb hby d4_0) rfl rfl k_) ?_
  show own_Go p e below _ s₁ (mkF m 1 #[.val (.ref a1)] [(.ref a1)])
  refine own_initO X0 hx hZ hown (own_w hw 24 rfl) (own_w hw 10 rfl) (own_w hw 11 rfl) e0 (by rw [hml]; rfl) (hb hby d4_1) (by decide) (W := 0) (Nat.le_of_eq rfl) (by decide) ?_
  intro T1 X1 e1
  show own_Go p e below _ T1 (mkF m 4 #[.val (.ref a1)] [])
  refine own_retV X1 hx hlk Bd.returns (hb hby d4_4) e1 (by decide) (by decide) ?_
  exact ⟨rfl, N0, rfl⟩
theorem ef_3 (m : MethodId) (a1 : Addr) : entryFrame m #[(.ref a1)] 1 = mkF m 0 #[.val (.ref a1)] [] := by first | (simp [entryFrame, mkF, argsToLocals, Value.category]; done) | rfl
set_option maxRecDepth 65536 in
set_option maxHeartbeats 40000000 in
theorem rm3 (l : Launch) (Z : State) (a0 : Array Value) (hw : ∀ d ∈ tables_1, d.before a0 Z = true) (ws : List Jvm.Cond) (a1 : Addr) (h0 : Heap) (n0 : Nat) (Z0 : n0 ≤ h0.size) (E_a1 : Exa Z h0 a1 "java/util/ArrayDeque") (F_e : Fld Z h0 a1 "java/util/ArrayDeque" "elements" "[Ljava/lang/Object;" .null) (g_a1 : n0 ≤ a1) :
    MetFree l (⟨"java/util/ArrayDeque", "<init>", "()V"⟩ : MethodName) (head1 (Jvm.Cond.code (⟨"java/util/ArrayDeque", "<init>", "()V"⟩ : MethodName) jdk_21_method_3_code 1 none :: ws) ({ frames := 2, cells := 1, slots := 17, locals := 26 } : Room)) (fun a U => a = #[(.ref a1)] ∧ Z.Warmed39 U.vm ∧ U.heap = h0) (fun _ _ _ _ _ => True) (fun _ U o U' => ∃ v L, o = .returned v ∧ QE Z a1 "java/util/ArrayDeque" h0 n0 v U'.heap L ∧ FrameEnd U o U' L ({ frames := 2, cells := 1, slots := 17, locals := 26 } : Room).cells ({ frames := 2, cells := 1, slots := 17, locals := 26 } : Room).slots) := by
  refine MetFree.of_bodySF (plainFor_of_name pn_3) hisR ?_
  intro p e s m args below meth c s₁ Bd hml0 hP hK
  obtain ⟨rfl, hZ, hh⟩ := hP
  have hx := Bd.exec
  have hby := Bd.bytes
  have hml : c.maxLocals = 1 := hml0
  have hown : s.vm.findClass "java/util/ArrayDeque" = some m.cls := findClass_of_methodNamed Bd.named
  have hnm := (name_of_methodNamed Bd.named Bd.method).1
  have hlk : meth.locks = false := BodyLoose.notSynchronized Bd
  have X0 : Stand p l e ({ frames := 2, cells := 1, slots := 17, locals := 26 } : Room) s m #[(.ref a1)] below meth c s₁ [] 0 0 := Stand.of_body Bd
  have e0 : s₁.heap = h0 := by rw [← hh, Bd.state]; rfl
  have N0 := Fr.nil n0
  refine own_start (Q := QE Z a1 "java/util/ArrayDeque" h0 n0) (ef_3 m a1) ?_
  have K0 := Keep.refl h0 [a1]
  show own_Go p e below _ s₁ (mkF m 0 #[.val (.ref a1)] [])
  refine own_by (fun t_ k_ => XS.aloadN X0.here hx rfl (hb hby d3_0) rfl rfl k_) ?_
  show own_Go p e below _ s₁ (mkF m 1 #[.val (.ref a1)] [(.ref a1)])
  refine own_callC (W := 0) X0 hx hZ (y := (⟨"java/util/AbstractCollection", "<init>", "()V"⟩ : MethodName)) rfl hown (own_w hw 18 rfl) (own_w hw 19 rfl) (own_w hw 22 rfl) (own_w hw 23 rfl) (by decide) (by rw [hml]; rfl) (argsL := []) pd_0 rfl (a := a1) (rm4 l Z a0 hw [] a1 h0 n0 Z0) (by decide) (by decide) (Nat.le_of_eq rfl) (by decide) (by decide) (rest := []) e0 rfl (hb hby d3_1) ?_
  intro v1 T1 L1 X1 hQ1
  obtain ⟨rfl, N1q, e1⟩ := hQ1
  have N1 := Fr.app N0 N1q
  show own_Go p e below _ T1 (mkF m 4 #[.val (.ref a1)] [])
  refine own_by (fun t_ k_ => XS.aloadN X1.here hx rfl (hb hby d3_4) rfl rfl k_) ?_
  show own_Go p e below _ T1 (mkF m 5 #[.val (.ref a1)] [(.ref a1)])
  refine own_by (fun t_ k_ => XS.bipush X1.here hx rfl (hb hby d3_5) k_) ?_
  show own_Go p e below _ T1 (mkF m 7 #[.val (.ref a1)] [(.int (17 : Int32)), (.ref a1)])
  refine own_newRO X1 hx hZ hown (own_w hw 25 rfl) (own_w hw 26 rfl) e1 (hb hby d3_7) 17 17 (by decide) (by decide) (by decide) (by decide) (by decide) (ad := "[Ljava/lang/Object;") (by decide) ?_
  intro T2 h2 b2 X2 e2 g2 E2 A2 Ex2 O2
  have lt_a1_b2 : a1 < b2 := Nat.lt_of_lt_of_le E_a1.lt (Nat.le_of_eq g2.symm)
  have g_b2 : n0 ≤ b2 := Nat.le_trans Z0 (Nat.le_of_eq g2.symm)
  have sz2 : n0 ≤ h2.size := Nat.le_trans Z0 E2.1
  have szk_b2 : h0.size ≤ b2 := Nat.le_trans K0.1 (Nat.le_of_eq g2.symm)
  have K2 : Keep h0 h2 [a1] := K0.ext E2
  have V2_0 : own_Arr Z h2 b2 (.object "java/lang/Object") [.null, .null, .null, .null, .null, .null, .null, .null, .null, .null, .null, .null, .null, .null, .null, .null, .null] := A2
  show own_Go p e below _ T2 (mkF m 10 #[.val (.ref a1)] [(.ref b2), (.ref a1)])
  have F_e_4 : Fld Z h2 a1 "java/util/ArrayDeque" "elements" "[Ljava/lang/Object;" .null := (Fld.ext E2 F_e)
  have E_a1_5 : Exa Z h2 a1 "java/util/ArrayDeque" := (Exa.ext E2 E_a1)
  refine own_putF X2 hx hZ hown (own_w hw 27 rfl) Via.refl e2 F_e_4 E_a1_5 (Or.inl (own_w hw 28 rfl)) (own_w hw 13 rfl) (ty := (.array (.object "java/lang/Object"))) (by decide) rfl rfl (hb hby d3_10) ?_
  intro T3 h3 X3 e3 W3
  have F3 := Fld.same W3 F_e_4
  have N3 := Fr.snoc X3 N1 g_a1
  have sz3 : n0 ≤ h3.size := Nat.le_trans sz2 (Keep.of_wr W3).1
  have K3 : Keep h0 h3 [a1] := K2.wr W3 (Or.inl (List.mem_cons_self ..))
  show own_Go p e below _ T3 (mkF m 13 #[.val (.ref a1)] [])
  refine own_retV X3 hx hlk Bd.returns (hb hby d3_13) e3 (by decide) (by decide) ?_
  have E_a1_6 : Exa Z h3 a1 "java/util/ArrayDeque" := (Exa.wr W3 E_a1_5)
  exact ⟨rfl, N3, K3, E_a1_6⟩
theorem ef_1 (m : MethodId) (a1 : Addr) : entryFrame m #[(.ref a1)] 1 = mkF m 0 #[.val (.ref a1)] [] := by first | (simp [entryFrame, mkF, argsToLocals, Value.category]; done) | rfl
set_option maxRecDepth 65536 in
set_option maxHeartbeats 40000000 in
theorem rm1 (l : Launch) (Z : State) (a0 : Array Value) (hw : ∀ d ∈ tables_1, d.before a0 Z = true) (ws : List Jvm.Cond) (a1 : Addr) (h0 : Heap) (n0 : Nat) (Z0 : n0 ≤ h0.size) (E_a1 : Exa Z h0 a1 "com/example/hedgewalk/hedgewalk/eval/Agenda") (F_listeners : Fld Z h0 a1 "com/example/hedgewalk/hedgewalk/eval/Agenda" "listeners" "Ljava/util/ArrayDeque;" .null) (F_values : Fld Z h0 a1 "com/example/hedgewalk/hedgewalk/eval/Agenda" "values" "Ljava/util/ArrayDeque;" .null) (g_a1 : n0 ≤ a1) :
    MetFree l (⟨"com/example/hedgewalk/hedgewalk/eval/Agenda", "<init>", "()V"⟩ : MethodName) (head1 (Jvm.Cond.code (⟨"com/example/hedgewalk/hedgewalk/eval/Agenda", "<init>", "()V"⟩ : MethodName) prog_29_method_1_code 1 none :: ws) ({ frames := 3, cells := 4, slots := 40, locals := 42 } : Room)) (fun a U => a = #[(.ref a1)] ∧ Z.Warmed39 U.vm ∧ U.heap = h0) (fun _ _ _ _ _ => True) (fun _ U o U' => ∃ v L, o = .returned v ∧ QE Z a1 "com/example/hedgewalk/hedgewalk/eval/Agenda" h0 n0 v U'.heap L ∧ FrameEnd U o U' L ({ frames := 3, cells := 4, slots := 40, locals := 42 } : Room).cells ({ frames := 3, cells := 4, slots := 40, locals := 42 } : Room).slots) := by
  refine MetFree.of_bodySF (plainFor_of_name pn_1) hisR ?_
  intro p e s m args below meth c s₁ Bd hml0 hP hK
  obtain ⟨rfl, hZ, hh⟩ := hP
  have hx := Bd.exec
  have hby := Bd.bytes
  have hml : c.maxLocals = 1 := hml0
  have hown : s.vm.findClass "com/example/hedgewalk/hedgewalk/eval/Agenda" = some m.cls := findClass_of_methodNamed Bd.named
  have hnm := (name_of_methodNamed Bd.named Bd.method).1
  have hlk : meth.locks = false := BodyLoose.notSynchronized Bd
  have X0 : Stand p l e ({ frames := 3, cells := 4, slots := 40, locals := 42 } : Room) s m #[(.ref a1)] below meth c s₁ [] 0 0 := Stand.of_body Bd
  have e0 : s₁.heap = h0 := by rw [← hh, Bd.state]; rfl
  have N0 := Fr.nil n0
  refine own_start (Q := QE Z a1 "com/example/hedgewalk/hedgewalk/eval/Agenda" h0 n0) (ef_1 m a1) ?_
  have K0 := Keep.refl h0 [a1]
  show own_Go p e below _ s₁ (mkF m 0 #[.val (.ref a1)] [])
  refine own_by (fun t_ k_ => XS.aloadN X0.here hx rfl (hb hby d1_0) rfl rfl k_) ?_
  show own_Go p e below _ s₁ (mkF m 1 #[.val (.ref a1)] [(.ref a1)])
  refine own_initO X0 hx hZ hown (own_w hw 9 rfl) (own_w hw 10 rfl) (own_w hw 11 rfl) e0 (by rw [hml]; rfl) (hb hby d1_1) (by decide) (W := 0) (Nat.le_of_eq rfl) (by decide) ?_
  intro T1 X1 e1
  show own_Go p e below _ T1 (mkF m 4 #[.val (.ref a1)] [])
  refine own_by (fun t_ k_ => XS.aloadN X1.here hx rfl (hb hby d1_4) rfl rfl k_) ?_
  show own_Go p e below _ T1 (mkF m 5 #[.val (.ref a1)] [(.ref a1)])
  refine own_newO X1 hx hZ hown (own_w hw 12 rfl) (own_w hw 13 rfl) (own_w hw 14 rfl) e1 (hb hby d1_5) (by decide) (by decide) ?_
  intro T2 h2 b2 X2 e2 g2 E2 A2 D2
  have lt_a1_b2 : a1 < b2 := Nat.lt_of_lt_of_le E_a1.lt (Nat.le_of_eq g2.symm)
  have g_b2 : n0 ≤ b2 := Nat.le_trans Z0 (Nat.le_of_eq g2.symm)
  have sz2 : n0 ≤ h2.size := Nat.le_trans Z0 E2.1
  have szk_b2 : h0.size ≤ b2 := Nat.le_trans K0.1 (Nat.le_of_eq g2.symm)
  have K2 : Keep h0 h2 [a1] := K0.ext E2
  have F3_0 : Fld Z h2 b2 "java/util/ArrayDeque" "elements" "[Ljava/lang/Object;" .null := D2 (Or.inl (own_w hw 28 rfl)) (ty := (.array (.object "java/lang/Object"))) (by decide)
  show own_Go p e below _ T2 (mkF m 8 #[.val (.ref a1)] [(.ref b2), (.ref a1)])
  refine own_by (fun t_ k_ => XS.dup X2.here hx rfl (hb hby d1_8) rfl rfl k_) ?_
  show own_Go p e below _ T2 (mkF m 9 #[.val (.ref a1)] [(.ref b2), (.ref b2), (.ref a1)])
  refine own_callC (W := 2) X2 hx hZ (y := (⟨"java/util/ArrayDeque", "<init>", "()V"⟩ : MethodName)) rfl hown (own_w hw 15 rfl) (own_w hw 16 rfl) (own_w hw 14 rfl) (own_w hw 17 rfl) (by decide) (by rw [hml]; rfl) (argsL := []) pd_0 rfl (a := b2) (rm3 l Z a0 hw [] b2 h2 n0 sz2 A2 F3_0 g_b2) (by decide) (by decide) (Nat.le_of_eq rfl) (by decide) (by decide) (rest := [(.ref b2), (.ref a1)]) e2 rfl (hb hby d1_9) ?_
  intro v4 T4 L4 X4 hQ4
  obtain ⟨rfl, N4q, K4q, E4⟩ := hQ4
  have N4 := Fr.app N0 N4q
  have sz4 : n0 ≤ T4.heap.size := Nat.le_trans sz2 K4q.1
  have K4 : Keep h0 T4.heap [a1] := K2.trans K4q (allS (Or.inr szk_b2) all0)
  show own_Go p e below _ T4 (mkF m 12 #[.val (.ref a1)] [(.ref b2), (.ref a1)])
  have F_listeners_6 : Fld Z T4.heap a1 "com/example/hedgewalk/hedgewalk/eval/Agenda" "listeners" "Ljava/util/ArrayDeque;" .null := (Fld.keep (Fld.ext E2 F_listeners) K4q (ninS (Nat.ne_of_lt lt_a1_b2) nin0))
  have E_a1_7 : Exa Z T4.heap a1 "com/example/hedgewalk/hedgewalk/eval/Agenda" := (Exa.keep (Exa.ext E2 E_a1) K4q)
  refine own_putF X4 hx hZ hown (own_w hw 29 rfl) Via.refl rfl F_listeners_6 E_a1_7 (Or.inr ⟨(own_w hw 30 rfl), rfl, hnm⟩) (own_w hw 4 rfl) (ty := (.object "java/util/ArrayDeque")) (by decide) rfl rfl (hb hby d1_12) ?_
  intro T5 h5 X5 e5 W5
  have F5 := Fld.same W5 F_listeners_6
  have N5 := Fr.snoc X5 N4 g_a1
  have sz5 : n0 ≤ h5.size := Nat.le_trans sz4 (Keep.of_wr W5).1
  have K5 : Keep h0 h5 [a1] := K4.wr W5 (Or.inl (List.mem_cons_self ..))
  show own_Go p e below _ T5 (mkF m 15 #[.val (.ref a1)] [])
  refine own_by (fun t_ k_ => XS.aloadN X5.here hx rfl (hb hby d1_15) rfl rfl k_) ?_
  show own_Go p e below _ T5 (mkF m 16 #[.val (.ref a1)] [(.ref a1)])
  refine own_newO X5 hx hZ hown (own_w hw 12 rfl) (own_w hw 13 rfl) (own_w hw 14 rfl) e5 (hb hby d1_16) (by decide) (by decide) ?_
  intro T8 h8 b8 X8 e8 g8 E8 A8 D8
  have E_a1_9 : Exa Z h5 a1 "com/example/hedgewalk/hedgewalk/eval/Agenda" := (Exa.wr W5 E_a1_7)
  have lt_a1_b8 : a1 < b8 := Nat.lt_of_lt_of_le E_a1_9.lt (Nat.le_of_eq g8.symm)
  have E4_10 : Exa Z h5 b2 "java/util/ArrayDeque" := (Exa.wr W5 E4)
  have lt_b2_b8 : b2 < b8 := Nat.lt_of_lt_of_le E4_10.lt (Nat.le_of_eq g8.symm)
  have g_b8 : n0 ≤ b8 := Nat.le_trans sz5 (Nat.le_of_eq g8.symm)
  have sz8 : n0 ≤ h8.size := Nat.le_trans sz5 E8.1
  have szk_b8 : h0.size ≤ b8 := Nat.le_trans K5.1 (Nat.le_of_eq g8.symm)
  have K8 : Keep h0 h8 [a1] := K5.ext E8
  have F11_0 : Fld Z h8 b8 "java/util/ArrayDeque" "elements" "[Ljava/lang/Object;" .null := D8 (Or.inl (own_w hw 28 rfl)) (ty := (.array (.object "java/lang/Object"))) (by decide)
  show own_Go p e below _ T8 (mkF m 19 #[.val (.ref a1)] [(.ref b8), (.ref a1)])
  refine own_by (fun t_ k_ => XS.dup X8.here hx rfl (hb hby d1_19) rfl rfl k_) ?_
  show own_Go p e below _ T8 (mkF m 20 #[.val (.ref a1)] [(.ref b8), (.ref b8), (.ref a1)])
  refine own_callC (W := 2) X8 hx hZ (y := (⟨"java/util/ArrayDeque", "<init>", "()V"⟩ : MethodName)) rfl hown (own_w hw 15 rfl) (own_w hw 16 rfl) (own_w hw 14 rfl) (own_w hw 17 rfl) (by decide) (by rw [hml]; rfl) (argsL := []) pd_0 rfl (a := b8) (rm3 l Z a0 hw [] b8 h8 n0 sz8 A8 F11_0 g_b8) (by decide) (by decide) (Nat.le_of_eq rfl) (by decide) (by decide) (rest := [(.ref b8), (.ref a1)]) e8 rfl (hb hby d1_20) ?_
  intro v12 T12 L12 X12 hQ12
  obtain ⟨rfl, N12q, K12q, E12⟩ := hQ12
  have N12 := Fr.app N5 N12q
  have sz12 : n0 ≤ T12.heap.size := Nat.le_trans sz8 K12q.1
  have K12 : Keep h0 T12.heap [a1] := K8.trans K12q (allS (Or.inr szk_b8) all0)
  show own_Go p e below _ T12 (mkF m 23 #[.val (.ref a1)] [(.ref b8), (.ref a1)])
  have F_values_14 : Fld Z T12.heap a1 "com/example/hedgewalk/hedgewalk/eval/Agenda" "values" "Ljava/util/ArrayDeque;" .null := (Fld.keep (Fld.ext E8 (Fld.other W5 (Fld.keep (Fld.ext E2 F_values) K4q (ninS (Nat.ne_of_lt lt_a1_b2) nin0)) (Or.inr (slot_ne (Or.inr (own_w hw 32 rfl)) (Or.inr (own_w hw 30 rfl)) (by decide) (t := (.object "java/util/ArrayDeque")) (t' := (.object "java/util/ArrayDeque")) (by decide) (by decide))))) K12q (ninS (Nat.ne_of_lt lt_a1_b8) nin0))
  have E_a1_15 : Exa Z T12.heap a1 "com/example/hedgewalk/hedgewalk/eval/Agenda" := (Exa.keep (Exa.ext E8 E_a1_9) K12q)
  refine own_putF X12 hx hZ hown (own_w hw 31 rfl) Via.refl rfl F_values_14 E_a1_15 (Or.inr ⟨(own_w hw 32 rfl), rfl, hnm⟩) (own_w hw 4 rfl) (ty := (.object "java/util/ArrayDeque")) (by decide) rfl rfl (hb hby d1_23) ?_
  intro T13 h13 X13 e13 W13
  have F13 := Fld.same W13 F_values_14
  have N13 := Fr.snoc X13 N12 g_a1
  have sz13 : n0 ≤ h13.size := Nat.le_trans sz12 (Keep.of_wr W13).1
  have K13 : Keep h0 h13 [a1] := K12.wr W13 (Or.inl (List.mem_cons_self ..))
  show own_Go p e below _ T13 (mkF m 26 #[.val (.ref a1)] [])
  refine own_retV X13 hx hlk Bd.returns (hb hby d1_26) e13 (by decide) (by decide) ?_
  have E_a1_16 : Exa Z h13 a1 "com/example/hedgewalk/hedgewalk/eval/Agenda" := (Exa.wr W13 E_a1_15)
  exact ⟨rfl, N13, K13, E_a1_16⟩
theorem ef_7 (m : MethodId) (a1 : Addr) : entryFrame m #[(.ref a1), .null] 2 = mkF m 0 #[.val (.ref a1), .val .null] [] := by first | (simp [entryFrame, mkF, argsToLocals, Value.category]; done) | rfl
set_option maxRecDepth 65536 in
set_option maxHeartbeats 40000000 in
theorem rm7 (l : Launch) (Z : State) (a0 : Array Value) (hw : ∀ d ∈ tables_1, d.before a0 Z = true) (ws : List Jvm.Cond) (a1 : Addr) (h0 : Heap) (n0 : Nat) (Z0 : n0 ≤ h0.size) (E_a1 : Exa Z h0 a1 "com/example/hedgewalk/hedgewalk/eval/Verdict$Told") (F_w : Fld Z h0 a1 "com/example/hedgewalk/hedgewalk/eval/Verdict" "waiting" "Ljava/lang/Object;" .null) (g_a1 : n0 ≤ a1) :
    MetFree l (⟨"com/example/hedgewalk/hedgewalk/eval/Verdict", "<init>", "(Ljava/lang/Object;)V"⟩ : MethodName) (head1 (Jvm.Cond.code (⟨"com/example/hedgewalk/hedgewalk/eval/Verdict", "<init>", "(Ljava/lang/Object;)V"⟩ : MethodName) prog_78_method_2_code 2 none :: ws) ({ frames := 1, cells := 0, slots := 0, locals := 12 } : Room)) (fun a U => a = #[(.ref a1), .null] ∧ Z.Warmed39 U.vm ∧ U.heap = h0) (fun _ _ _ _ _ => True) (fun _ U o U' => ∃ v L, o = .returned v ∧ QT Z a1 h0 n0 v U'.heap L ∧ FrameEnd U o U' L ({ frames := 1, cells := 0, slots := 0, locals := 12 } : Room).cells ({ frames := 1, cells := 0, slots := 0, locals := 12 } : Room).slots) := by
  refine MetFree.of_bodySF (plainFor_of_name pn_6) hisR ?_
  intro p e s m args below meth c s₁ Bd hml0 hP hK
  obtain ⟨rfl, hZ, hh⟩ := hP
  have hx := Bd.exec
  have hby := Bd.bytes
  have hml : c.maxLocals = 2 := hml0
  have hown : s.vm.findClass "com/example/hedgewalk/hedgewalk/eval/Verdict" = some m.cls := findClass_of_methodNamed Bd.named
  have hnm := (name_of_methodNamed Bd.named Bd.method).1
  have hlk : meth.locks = false := BodyLoose.notSynchronized Bd
  have X0 : Stand p l e ({ frames := 1, cells := 0, slots := 0, locals := 12 } : Room) s m #[(.ref a1), .null] below meth c s₁ [] 0 0 := Stand.of_body Bd
  have e0 : s₁.heap = h0 := by rw [← hh, Bd.state]; rfl
  have N0 := Fr.nil n0
  refine own_start (Q := QT Z a1 h0 n0) (ef_7 m a1) ?_
  have K0 := Keep.refl h0 [a1]
  show own_Go p e below _ s₁ (mkF m 0 #[.val (.ref a1), .val .null] [])
  refine own_by (fun t_ k_ => XS.aloadN X0.here hx rfl (hb hby d7_0) rfl rfl k_) ?_
  show own_Go p e below _ s₁ (mkF m 1 #[.val (.ref a1), .val .null] [(.ref a1)])
  refine own_initO X0 hx hZ hown (own_w hw 47 rfl) (own_w hw 10 rfl) (own_w hw 11 rfl) e0 (by rw [hml]; rfl) (hb hby d7_1) (by decide) (W := 0) (Nat.le_of_eq rfl) (by decide) ?_
  intro T1 X1 e1
  show own_Go p e below _ T1 (mkF m 4 #[.val (.ref a1), .val .null] [])
  refine own_by (fun t_ k_ => XS.aloadN X1.here hx rfl (hb hby d7_4) rfl rfl k_) ?_
  show own_Go p e below _ T1 (mkF m 5 #[.val (.ref a1), .val .null] [(.ref a1)])
  refine own_by (fun t_ k_ => XS.aloadN X1.here hx rfl (hb hby d7_5) rfl rfl k_) ?_
  show own_Go p e below _ T1 (mkF m 6 #[.val (.ref a1), .val .null] [.null, (.ref a1)])
  refine own_putF X1 hx hZ hown (own_w hw 48 rfl) Via.refl e1 F_w E_a1 (Or.inl (own_w hw 49 rfl)) (own_w hw 34 rfl) (ty := (.object "java/lang/Object")) (by decide) rfl rfl (hb hby d7_6) ?_
  intro T2 h2 X2 e2 W2
  have F2 := Fld.same W2 F_w
  have N2 := Fr.snoc X2 N0 g_a1
  have sz2 : n0 ≤ h2.size := Nat.le_trans Z0 (Keep.of_wr W2).1
  have K2 : Keep h0 h2 [a1] := K0.wr W2 (Or.inl (List.mem_cons_self ..))
  show own_Go p e below _ T2 (mkF m 9 #[.val (.ref a1), .val .null] [])
  refine own_retV X2 hx hlk Bd.returns (hb hby d7_9) e2 (by decide) (by decide) ?_
  have E_a1_3 : Exa Z h2 a1 "com/example/hedgewalk/hedgewalk/eval/Verdict$Told" := (Exa.wr W2 E_a1)
  exact ⟨rfl, N2, K2, E_a1_3, F2⟩
theorem ef_6 (m : MethodId) (a1 : Addr) : entryFrame m #[(.ref a1)] 1 = mkF m 0 #[.val (.ref a1)] [] := by first | (simp [entryFrame, mkF, argsToLocals, Value.category]; done) | rfl
set_option maxRecDepth 65536 in
set_option maxHeartbeats 40000000 in
theorem rm6 (l : Launch) (Z : State) (a0 : Array Value) (hw : ∀ d ∈ tables_1, d.before a0 Z = true) (ws : List Jvm.Cond) (a1 : Addr) (h0 : Heap) (n0 : Nat) (Z0 : n0 ≤ h0.size) (E_a1 : Exa Z h0 a1 "com/example/hedgewalk/hedgewalk/eval/Verdict$Told") (F_w : Fld Z h0 a1 "com/example/hedgewalk/hedgewalk/eval/Verdict" "waiting" "Ljava/lang/Object;" .null) (g_a1 : n0 ≤ a1) :
    MetFree l (⟨"com/example/hedgewalk/hedgewalk/eval/Verdict", "<init>", "()V"⟩ : MethodName) (head1 (Jvm.Cond.code (⟨"com/example/hedgewalk/hedgewalk/eval/Verdict", "<init>", "()V"⟩ : MethodName) prog_78_method_1_code 1 none :: ws) ({ frames := 2, cells := 0, slots := 0, locals := 26 } : Room)) (fun a U => a = #[(.ref a1)] ∧ Z.Warmed39 U.vm ∧ U.heap = h0) (fun _ _ _ _ _ => True) (fun _ U o U' => ∃ v L, o = .returned v ∧ QT Z a1 h0 n0 v U'.heap L ∧ FrameEnd U o U' L ({ frames := 2, cells := 0, slots := 0, locals := 26 } : Room).cells ({ frames := 2, cells := 0, slots := 0, locals := 26 } : Room).slots) := by
  refine MetFree.of_bodySF (plainFor_of_name pn_6) hisR ?_
  intro p e s m args below meth c s₁ Bd hml0 hP hK
  obtain ⟨rfl, hZ, hh⟩ := hP
  have hx := Bd.exec
  have hby := Bd.bytes
  have hml : c.maxLocals = 1 := hml0
  have hown : s.vm.findClass "com/example/hedgewalk/hedgewalk/eval/Verdict" = some m.cls := findClass_of_methodNamed Bd.named
  have hnm := (name_of_methodNamed Bd.named Bd.method).1
  have hlk : meth.locks = false := BodyLoose.notSynchronized Bd
  have X0 : Stand p l e ({ frames := 2, cells := 0, slots := 0, locals := 26 } : Room) s m #[(.ref a1)] below meth c s₁ [] 0 0 := Stand.of_body Bd
  have e0 : s₁.heap = h0 := by rw [← hh, Bd.state]; rfl
  have N0 := Fr.nil n0
  refine own_start (Q := QT Z a1 h0 n0) (ef_6 m a1) ?_
  have K0 := Keep.refl h0 [a1]
  show own_Go p e below _ s₁ (mkF m 0 #[.val (.ref a1)] [])
  refine own_by (fun t_ k_ => XS.aloadN X0.here hx rfl (hb hby d6_0) rfl rfl k_) ?_
  show own_Go p e below _ s₁ (mkF m 1 #[.val (.ref a1)] [(.ref a1)])
  refine own_by (fun t_ k_ => XS.aconstNull X0.here hx rfl (hb hby d6_1) k_) ?_
  show own_Go p e below _ s₁ (mkF m 2 #[.val (.ref a1)] [.null, (.ref a1)])
  refine own_callC (W := 0) X0 hx hZ (y := (⟨"com/example/hedgewalk/hedgewalk/eval/Verdict", "<init>", "(Ljava/lang/Object;)V"⟩ : MethodName)) rfl hown (own_w hw 44 rfl) (own_w hw 45 rfl) (own_w hw 42 rfl) (own_w hw 46 rfl) (by decide) (by rw [hml]; rfl) (argsL := [.null]) pd_1 rfl (a := a1) (rm7 l Z a0 hw [] a1 h0 n0 Z0 E_a1 F_w g_a1) (by decide) (by decide) (Nat.le_of_eq rfl) (by decide) (by decide) (rest := []) e0 rfl (hb hby d6_2) ?_
  intro v1 T1 L1 X1 hQ1
  obtain ⟨rfl, N1q, K1q, E1, F1⟩ := hQ1
  have N1 := Fr.app N0 N1q
  have sz1 : n0 ≤ T1.heap.size := Nat.le_trans Z0 K1q.1
  have K1 : Keep h0 T1.heap [a1] := K0.trans K1q (allS (Or.inl (List.mem_cons_self ..)) all0)
  show own_Go p e below _ T1 (mkF m 5 #[.val (.ref a1)] [])
  refine own_retV X1 hx hlk Bd.returns (hb hby d6_5) rfl (by decide) (by decide) ?_
  exact ⟨rfl, N1, K1, E1, F1⟩
theorem ef_5 (m : MethodId) (a1 : Addr) : entryFrame m #[(.ref a1)] 1 = mkF m 0 #[.val (.ref a1)] [] := by first | (simp [entryFrame, mkF, argsToLocals, Value.category]; done) | rfl
set_option maxRecDepth 65536 in
set_option maxHeartbeats 40000000 in
theorem rm5 (l : Launch) (Z : State) (a0 : Array Value) (hw : ∀ d ∈ tables_1, d.before a0 Z = true) (ws : List Jvm.Cond) (a1 : Addr) (h0 : Heap) (n0 : Nat) (Z0 : n0 ≤ h0.size) (E_a1 : Exa Z h0 a1 "com/example/hedgewalk/hedgewalk/eval/Verdict$Told") (F_w : Fld Z h0 a1 "com/example/hedgewalk/hedgewalk/eval/Verdict" "waiting" "Ljava/lang/Object;" .null) (g_a1 : n0 ≤ a1) :
    MetFree l (⟨"com/example/hedgewalk/hedgewalk/eval/Verdict$Told", "<init>", "()V"⟩ : MethodName) (head1 (Jvm.Cond.code (⟨"com/example/hedgewalk/hedgewalk/eval/Verdict$Told", "<init>", "()V"⟩ : MethodName) prog_84_method_1_code 1 none :: ws) ({ frames := 3, cells := 0, slots := 0, locals := 40 } : Room)) (fun a U => a = #[(.ref a1)] ∧ Z.Warmed39 U.vm ∧ U.heap = h0) (fun _ _ _ _ _ => True) (fun _ U o U' => ∃ v L, o = .returned v ∧ QT Z a1 h0 n0 v U'.heap L ∧ FrameEnd U o U' L ({ frames := 3, cells := 0, slots := 0, locals := 40 } : Room).cells ({ frames := 3, cells := 0, slots := 0, locals := 40 } : Room).slots) := by
  refine MetFree.of_bodySF (plainFor_of_name pn_5) hisR ?_
  intro p e s m args below meth c s₁ Bd hml0 hP hK
  obtain ⟨rfl, hZ, hh⟩ := hP
  have hx := Bd.exec
  have hby := Bd.bytes
  have hml : c.maxLocals = 1 := hml0
  have hown : s.vm.findClass "com/example/hedgewalk/hedgewalk/eval/Verdict$Told" = some m.cls := findClass_of_methodNamed Bd.named
  have hnm := (name_of_methodNamed Bd.named Bd.method).1
  have hlk : meth.locks = false := BodyLoose.notSynchronized Bd
  have X0 : Stand p l e ({ frames := 3, cells := 0, slots := 0, locals := 40 } : Room) s m #[(.ref a1)] below meth c s₁ [] 0 0 := Stand.of_body Bd
  have e0 : s₁.heap = h0 := by rw [← hh, Bd.state]; rfl
  have N0 := Fr.nil n0
  refine own_start (Q := QT Z a1 h0 n0) (ef_5 m a1) ?_
  have K0 := Keep.refl h0 [a1]
  show own_Go p e below _ s₁ (mkF m 0 #[.val (.ref a1)] [])
  refine own_by (fun t_ k_ => XS.aloadN X0.here hx rfl (hb hby d5_0) rfl rfl k_) ?_
  show own_Go p e below _ s₁ (mkF m 1 #[.val (.ref a1)] [(.ref a1)])
  refine own_callC (W := 0) X0 hx hZ (y := (⟨"com/example/hedgewalk/hedgewalk/eval/Verdict", "<init>", "()V"⟩ : MethodName)) rfl hown (own_w hw 39 rfl) (own_w hw 40 rfl) (own_w hw 42 rfl) (own_w hw 43 rfl) (by decide) (by rw [hml]; rfl) (argsL := []) pd_0 rfl (a := a1) (rm6 l Z a0 hw [] a1 h0 n0 Z0 E_a1 F_w g_a1) (by decide) (by decide) (Nat.le_of_eq rfl) (by decide) (by decide) (rest := []) e0 rfl (hb hby d5_1) ?_
  intro v1 T1 L1 X1 hQ1
  obtain ⟨rfl, N1q, K1q, E1, F1⟩ := hQ1
  have N1 := Fr.app N0 N1q
  have sz1 : n0 ≤ T1.heap.size := Nat.le_trans Z0 K1q.1
  have K1 : Keep h0 T1.heap [a1] := K0.trans K1q (allS (Or.inl (List.mem_cons_self ..)) all0)
  show own_Go p e below _ T1 (mkF m 4 #[.val (.ref a1)] [])
  refine own_retV X1 hx hlk Bd.returns (hb hby d5_4) rfl (by decide) (by decide) ?_
  exact ⟨rfl, N1, K1, E1, F1⟩
theorem ef_8 (m : MethodId) (a1 : Addr) : entryFrame m #[(.ref a1)] 1 = mkF m 0 #[.val (.ref a1)] [] := by first | (simp [entryFrame, mkF, argsToLocals, Value.category]; done) | rfl
set_option maxRecDepth 65536 in
set_option maxHeartbeats 40000000 in
theorem rm8 (l : Launch) (Z : State) (a0 : Array Value) (hw : ∀ d ∈ tables_1, d.before a0 Z = true) (ws : List Jvm.Cond) (a1 : Addr) (h0 : Heap) (n0 : Nat) (Z0 : n0 ≤ h0.size) (E_a1 : Exa Z h0 a1 "com/example/hedgewalk/hedgewalk/eval/GoalQueue") (F_keys : Fld Z h0 a1 "com/example/hedgewalk/hedgewalk/eval/GoalQueue" "keys" "[J" .null) (F_holders : Fld Z h0 a1 "com/example/hedgewalk/hedgewalk/eval/GoalQueue" "holders" "[I" .null) (F_goals : Fld Z h0 a1 "com/example/hedgewalk/hedgewalk/eval/GoalQueue" "goals" "[Lcom/example/hedgewalk/hedgewalk/eval/Verdict$Listener;" .null) (F_size : Fld Z h0 a1 "com/example/hedgewalk/hedgewalk/eval/GoalQueue" "size" "I" (.int (0 : Int32))) (F_firstOpen : Fld Z h0 a1 "com/example/hedgewalk/hedgewalk/eval/GoalQueue" "firstOpen" "I" (.int (0 : Int32))) (g_a1 : n0 ≤ a1) :
    MetFree l (⟨"com/example/hedgewalk/hedgewalk/eval/GoalQueue", "<init>", "()V"⟩ : MethodName) (head1 (Jvm.Cond.code (⟨"com/example/hedgewalk/hedgewalk/eval/GoalQueue", "<init>", "()V"⟩ : MethodName) prog_34_method_1_code 1 none :: ws) ({ frames := 1, cells := 3, slots := 12, locals := 14 } : Room)) (fun a U => a = #[(.ref a1)] ∧ Z.Warmed39 U.vm ∧ U.heap = h0) (fun _ _ _ _ _ => True) (fun _ U o U' => ∃ v L, o = .returned v ∧ Q8 Z a1 h0 n0 v U'.heap L ∧ FrameEnd U o U' L ({ frames := 1, cells := 3, slots := 12, locals := 14 } : Room).cells ({ frames := 1, cells := 3, slots := 12, locals := 14 } : Room).slots) := by
  refine MetFree.of_bodySF (plainFor_of_name pn_8) hisR ?_
  intro p e s m args below meth c s₁ Bd hml0 hP hK
  obtain ⟨rfl, hZ, hh⟩ := hP
  have hx := Bd.exec
  have hby := Bd.bytes
  have hml : c.maxLocals = 1 := hml0
  have hown : s.vm.findClass "com/example/hedgewalk/hedgewalk/eval/GoalQueue" = some m.cls := findClass_of_methodNamed Bd.named
  have hnm := (name_of_methodNamed Bd.named Bd.method).1
  have hlk : meth.locks = false := BodyLoose.notSynchronized Bd
  have X0 : Stand p l e ({ frames := 1, cells := 3, slots := 12, locals := 14 } : Room) s m #[(.ref a1)] below meth c s₁ [] 0 0 := Stand.of_body Bd
  have e0 : s₁.heap = h0 := by rw [← hh, Bd.state]; rfl
  have N0 := Fr.nil n0
  refine own_start (Q := Q8 Z a1 h0 n0) (ef_8 m a1) ?_
  have K0 := Keep.refl h0 [a1]
  show own_Go p e below _ s₁ (mkF m 0 #[.val (.ref a1)] [])
  refine own_by (fun t_ k_ => XS.aloadN X0.here hx rfl (hb hby d8_0) rfl rfl k_) ?_
  show own_Go p e below _ s₁ (mkF m 1 #[.val (.ref a1)] [(.ref a1)])
  refine own_initO X0 hx hZ hown (own_w hw 56 rfl) (own_w hw 10 rfl) (own_w hw 11 rfl) e0 (by rw [hml]; rfl) (hb hby d8_1) (by decide) (W := 0) (Nat.le_of_eq rfl) (by decide) ?_
  intro T1 X1 e1
  show own_Go p e below _ T1 (mkF m 4 #[.val (.ref a1)] [])
  refine own_by (fun t_ k_ => XS.aloadN X1.here hx rfl (hb hby d8_4) rfl rfl k_) ?_
  show own_Go p e below _ T1 (mkF m 5 #[.val (.ref a1)] [(.ref a1)])
  refine own_by (fun t_ k_ => XS.iconst X1.here hx rfl (hb hby d8_5) k_) ?_
  show own_Go p e below _ T1 (mkF m 6 #[.val (.ref a1)] [(.int (4 : Int32)), (.ref a1)])
  refine own_newP X1 hx hZ (own_w hw 57 rfl) e1 (hb hby d8_6) 4 4 (by decide) (by decide) (by decide) (by decide) (by decide) ?_
  intro T2 h2 b2 X2 e2 g2 E2 A2
  have lt_a1_b2 : a1 < b2 := Nat.lt_of_lt_of_le E_a1.lt (Nat.le_of_eq g2.symm)
  have g_b2 : n0 ≤ b2 := Nat.le_trans Z0 (Nat.le_of_eq g2.symm)
  have sz2 : n0 ≤ h2.size := Nat.le_trans Z0 E2.1
  have szk_b2 : h0.size ≤ b2 := Nat.le_trans K0.1 (Nat.le_of_eq g2.symm)
  have K2 : Keep h0 h2 [a1] := K0.ext E2
  have V2_0 : own_Arr Z h2 b2 .long [(.long (0 : Int64)), (.long (0 : Int64)), (.long (0 : Int64)), (.long (0 : Int64))] := A2
  show own_Go p e below _ T2 (mkF m 8 #[.val (.ref a1)] [(.ref b2), (.ref a1)])
  have F_keys_4 : Fld Z h2 a1 "com/example/hedgewalk/hedgewalk/eval/GoalQueue" "keys" "[J" .null := (Fld.ext E2 F_keys)
  have E_a1_5 : Exa Z h2 a1 "com/example/hedgewalk/hedgewalk/eval/GoalQueue" := (Exa.ext E2 E_a1)
  refine own_putF X2 hx hZ hown (own_w hw 58 rfl) Via.refl e2 F_keys_4 E_a1_5 (Or.inl (own_w hw 59 rfl)) (own_w hw 51 rfl) (ty := (.array .long)) (by decide) rfl rfl (hb hby d8_8) ?_
  intro T3 h3 X3 e3 W3
  have F3 := Fld.same W3 F_keys_4
  have N3 := Fr.snoc X3 N0 g_a1
  have sz3 : n0 ≤ h3.size := Nat.le_trans sz2 (Keep.of_wr W3).1
  have K3 : Keep h0 h3 [a1] := K2.wr W3 (Or.inl (List.mem_cons_self ..))
  show own_Go p e below _ T3 (mkF m 11 #[.val (.ref a1)] [])
  refine own_by (fun t_ k_ => XS.aloadN X3.here hx rfl (hb hby d8_11) rfl rfl k_) ?_
  show own_Go p e below _ T3 (mkF m 12 #[.val (.ref a1)] [(.ref a1)])
  refine own_by (fun t_ k_ => XS.iconst X3.here hx rfl (hb hby d8_12) k_) ?_
  show own_Go p e below _ T3 (mkF m 13 #[.val (.ref a1)] [(.int (4 : Int32)), (.ref a1)])
  refine own_newP X3 hx hZ (own_w hw 60 rfl) e3 (hb hby d8_13) 4 4 (by decide) (by decide) (by decide) (by decide) (by decide) ?_
  intro T6 h6 b6 X6 e6 g6 E6 A6
  have E_a1_7 : Exa Z h3 a1 "com/example/hedgewalk/hedgewalk/eval/GoalQueue" := (Exa.wr W3 E_a1_5)
  have lt_a1_b6 : a1 < b6 := Nat.lt_of_lt_of_le E_a1_7.lt (Nat.le_of_eq g6.symm)
  have V2_8 : own_Arr Z h3 b2 .long [(.long (0 : Int64)), (.long (0 : Int64)), (.long (0 : Int64)), (.long (0 : Int64))] := (own_Arr.other V2_0 W3 (Ne.symm (Nat.ne_of_lt lt_a1_b2)))
  have lt_b2_b6 : b2 < b6 := Nat.lt_of_lt_of_le V2_8.lt (Nat.le_of_eq g6.symm)
  have g_b6 : n0 ≤ b6 := Nat.le_trans sz3 (Nat.le_of_eq g6.symm)
  have sz6 : n0 ≤ h6.size := Nat.le_trans sz3 E6.1
  have szk_b6 : h0.size ≤ b6 := Nat.le_trans K3.1 (Nat.le_of_eq g6.symm)
  have K6 : Keep h0 h6 [a1] := K3.ext E6
  have V6_0 : own_Arr Z h6 b6 .int [(.int (0 : Int32)), (.int (0 : Int32)), (.int (0 : Int32)), (.int (0 : Int32))] := A6
  show own_Go p e below _ T6 (mkF m 15 #[.val (.ref a1)] [(.ref b6), (.ref a1)])
  have F_holders_10 : Fld Z h6 a1 "com/example/hedgewalk/hedgewalk/eval/GoalQueue" "holders" "[I" .null := (Fld.ext E6 (Fld.other W3 (Fld.ext E2 F_holders) (Or.inr (slot_ne (Or.inl (own_w hw 62 rfl)) (Or.inl (own_w hw 59 rfl)) (by decide) (t := (.array .int)) (t' := (.array .long)) (by decide) (by decide)))))
  have E_a1_11 : Exa Z h6 a1 "com/example/hedgewalk/hedgewalk/eval/GoalQueue" := (Exa.ext E6 E_a1_7)
  refine own_putF X6 hx hZ hown (own_w hw 61 rfl) Via.refl e6 F_holders_10 E_a1_11 (Or.inl (own_w hw 62 rfl)) (own_w hw 51 rfl) (ty := (.array .int)) (by decide) rfl rfl (hb hby d8_15) ?_
  intro T9 h9 X9 e9 W9
  have F9 := Fld.same W9 F_holders_10
  have N9 := Fr.snoc X9 N3 g_a1
  have sz9 : n0 ≤ h9.size := Nat.le_trans sz6 (Keep.of_wr W9).1
  have K9 : Keep h0 h9 [a1] := K6.wr W9 (Or.inl (List.mem_cons_self ..))
  show own_Go p e below _ T9 (mkF m 18 #[.val (.ref a1)] [])
  refine own_by (fun t_ k_ => XS.aloadN X9.here hx rfl (hb hby d8_18) rfl rfl k_) ?_
  show own_Go p e below _ T9 (mkF m 19 #[.val (.ref a1)] [(.ref a1)])
  refine own_by (fun t_ k_ => XS.iconst X9.here hx rfl (hb hby d8_19) k_) ?_
  show own_Go p e below _ T9 (mkF m 20 #[.val (.ref a1)] [(.int (4 : Int32)), (.ref a1)])
  refine own_newRO X9 hx hZ hown (own_w hw 63 rfl) (own_w hw 64 rfl) e9 (hb hby d8_20) 4 4 (by decide) (by decide) (by decide) (by decide) (by decide) (ad := "[Lcom/example/hedgewalk/hedgewalk/eval/Verdict$Listener;") (by decide) ?_
  intro T12 h12 b12 X12 e12 g12 E12 A12 Ex12 O12
  have E_a1_13 : Exa Z h9 a1 "com/example/hedgewalk/hedgewalk/eval/GoalQueue" := (Exa.wr W9 E_a1_11)
  have lt_a1_b12 : a1 < b12 := Nat.lt_of_lt_of_le E_a1_13.lt (Nat.le_of_eq g12.symm)
  have V2_14 : own_Arr Z h9 b2 .long [(.long (0 : Int64)), (.long (0 : Int64)), (.long (0 : Int64)), (.long (0 : Int64))] := (own_Arr.other (own_Arr.ext V2_8 E6) W9 (Ne.symm (Nat.ne_of_lt lt_a1_b2)))
  have lt_b2_b12 : b2 < b12 := Nat.lt_of_lt_of_le V2_14.lt (Nat.le_of_eq g12.symm)
  have V6_15 : own_Arr Z h9 b6 .int [(.int (0 : Int32)), (.int (0 : Int32)), (.int (0 : Int32)), (.int (0 : Int32))] := (own_Arr.other V6_0 W9 (Ne.symm (Nat.ne_of_lt lt_a1_b6)))
  have lt_b6_b12 : b6 < b12 := Nat.lt_of_lt_of_le V6_15.lt (Nat.le_of_eq g12.symm)
  have g_b12 : n0 ≤ b12 := Nat.le_trans sz9 (Nat.le_of_eq g12.symm)
  have sz12 : n0 ≤ h12.size := Nat.le_trans sz9 E12.1
  have szk_b12 : h0.size ≤ b12 := Nat.le_trans K9.1 (Nat.le_of_eq g12.symm)
  have K12 : Keep h0 h12 [a1] := K9.ext E12
  have V12_0 : own_Arr Z h12 b12 (.object "com/example/hedgewalk/hedgewalk/eval/Verdict$Listener") [.null, .null, .null, .null] := A12
  show own_Go p e below _ T12 (mkF m 23 #[.val (.ref a1)] [(.ref b12), (.ref a1)])
  have F_goals_17 : Fld Z h12 a1 "com/example/hedgewalk/hedgewalk/eval/GoalQueue" "goals" "[Lcom/example/hedgewalk/hedgewalk/eval/Verdict$Listener;" .null := (Fld.ext E12 (Fld.other W9 (Fld.ext E6 (Fld.other W3 (Fld.ext E2 F_goals) (Or.inr (slot_ne (Or.inl (own_w hw 66 rfl)) (Or.inl (own_w hw 59 rfl)) (by decide) (t := (.array (.object "com/example/hedgewalk/hedgewalk/eval/Verdict$Listener"))) (t' := (.array .long)) (by decide) (by decide))))) (Or.inr (slot_ne (Or.inl (own_w hw 66 rfl)) (Or.inl (own_w hw 62 rfl)) (by decide) (t := (.array (.object "com/example/hedgewalk/hedgewalk/eval/Verdict$Listener"))) (t' := (.array .int)) (by decide) (by decide)))))
  have E_a1_18 : Exa Z h12 a1 "com/example/hedgewalk/hedgewalk/eval/GoalQueue" := (Exa.ext E12 E_a1_13)
  refine own_putF X12 hx hZ hown (own_w hw 65 rfl) Via.refl e12 F_goals_17 E_a1_18 (Or.inl (own_w hw 66 rfl)) (own_w hw 51 rfl) (ty := (.array (.object "com/example/hedgewalk/hedgewalk/eval/Verdict$Listener"))) (by decide) rfl rfl (hb hby d8_23) ?_
  intro T16 h16 X16 e16 W16
  have F16 := Fld.same W16 F_goals_17
  have N16 := Fr.snoc X16 N9 g_a1
  have sz16 : n0 ≤ h16.size := Nat.le_trans sz12 (Keep.of_wr W16).1
  have K16 : Keep h0 h16 [a1] := K12.wr W16 (Or.inl (List.mem_cons_self ..))
  show own_Go p e below _ T16 (mkF m 26 #[.val (.ref a1)] [])
  refine own_retV X16 hx hlk Bd.returns (hb hby d8_26) e16 (by decide) (by decide) ?_
  have E_a1_19 : Exa Z h16 a1 "com/example/hedgewalk/hedgewalk/eval/GoalQueue" := (Exa.wr W16 E_a1_18)
  have F3_20 : Fld Z h16 a1 "com/example/hedgewalk/hedgewalk/eval/GoalQueue" "keys" "[J" (.ref b2) := (Fld.other W16 (Fld.ext E12 (Fld.other W9 (Fld.ext E6 F3) (Or.inr (slot_ne (Or.inl (own_w hw 59 rfl)) (Or.inl (own_w hw 62 rfl)) (by decide) (t := (.array .long)) (t' := (.array .int)) (by decide) (by decide))))) (Or.inr (slot_ne (Or.inl (own_w hw 59 rfl)) (Or.inl (own_w hw 66 rfl)) (by decide) (t := (.array .long)) (t' := (.array (.object "com/example/hedgewalk/hedgewalk/eval/Verdict$Listener"))) (by decide) (by decide))))
  have F9_21 : Fld Z h16 a1 "com/example/hedgewalk/hedgewalk/eval/GoalQueue" "holders" "[I" (.ref b6) := (Fld.other W16 (Fld.ext E12 F9) (Or.inr (slot_ne (Or.inl (own_w hw 62 rfl)) (Or.inl (own_w hw 66 rfl)) (by decide) (t := (.array .int)) (t' := (.array (.object "com/example/hedgewalk/hedgewalk/eval/Verdict$Listener"))) (by decide) (by decide))))
  have F_size_22 : Fld Z h16 a1 "com/example/hedgewalk/hedgewalk/eval/GoalQueue" "size" "I" (.int (0 : Int32)) := (Fld.other W16 (Fld.ext E12 (Fld.other W9 (Fld.ext E6 (Fld.other W3 (Fld.ext E2 F_size) (Or.inr (slot_ne (Or.inl (own_w hw 75 rfl)) (Or.inl (own_w hw 59 rfl)) (by decide) (t := .int) (t' := (.array .long)) (by decide) (by decide))))) (Or.inr (slot_ne (Or.inl (own_w hw 75 rfl)) (Or.inl (own_w hw 62 rfl)) (by decide) (t := .int) (t' := (.array .int)) (by decide) (by decide))))) (Or.inr (slot_ne (Or.inl (own_w hw 75 rfl)) (Or.inl (own_w hw 66 rfl)) (by decide) (t := .int) (t' := (.array (.object "com/example/hedgewalk/hedgewalk/eval/Verdict$Listener"))) (by decide) (by decide))))
  have F_firstOpen_23 : Fld Z h16 a1 "com/example/hedgewalk/hedgewalk/eval/GoalQueue" "firstOpen" "I" (.int (0 : Int32)) := (Fld.other W16 (Fld.ext E12 (Fld.other W9 (Fld.ext E6 (Fld.other W3 (Fld.ext E2 F_firstOpen) (Or.inr (slot_ne (Or.inl (own_w hw 73 rfl)) (Or.inl (own_w hw 59 rfl)) (by decide) (t := .int) (t' := (.array .long)) (by decide) (by decide))))) (Or.inr (slot_ne (Or.inl (own_w hw 73 rfl)) (Or.inl (own_w hw 62 rfl)) (by decide) (t := .int) (t' := (.array .int)) (by decide) (by decide))))) (Or.inr (slot_ne (Or.inl (own_w hw 73 rfl)) (Or.inl (own_w hw 66 rfl)) (by decide) (t := .int) (t' := (.array (.object "com/example/hedgewalk/hedgewalk/eval/Verdict$Listener"))) (by decide) (by decide))))
  have V2_24 : own_Arr Z h16 b2 .long [(.long (0 : Int64)), (.long (0 : Int64)), (.long (0 : Int64)), (.long (0 : Int64))] := (own_Arr.other (own_Arr.ext V2_14 E12) W16 (Ne.symm (Nat.ne_of_lt lt_a1_b2)))
  have V6_25 : own_Arr Z h16 b6 .int [(.int (0 : Int32)), (.int (0 : Int32)), (.int (0 : Int32)), (.int (0 : Int32))] := (own_Arr.other (own_Arr.ext V6_15 E12) W16 (Ne.symm (Nat.ne_of_lt lt_a1_b6)))
  have V12_26 : own_Arr Z h16 b12 (.object "com/example/hedgewalk/hedgewalk/eval/Verdict$Listener") [.null, .null, .null, .null] := (own_Arr.other V12_0 W16 (Ne.symm (Nat.ne_of_lt lt_a1_b12)))
  have O12_27 : own_Ovr Z h16 b12 "com/example/hedgewalk/hedgewalk/eval/Verdict$Listener" := (own_Ovr.wr O12 W16)
  exact ⟨b2, b6, b12, rfl, N16, K16, E_a1_19, F3_20, F9_21, F16, F_size_22, F_firstOpen_23, V2_24, V6_25, V12_26, O12_27, g_a1, g_b2, g_b6, g_b12⟩
theorem ef_9 (m : MethodId) (a1 : Addr) : entryFrame m #[(.ref a1)] 1 = mkF m 0 #[.val (.ref a1)] [] := by first | (simp [entryFrame, mkF, argsToLocals, Value.category]; done) | rfl
set_option maxRecDepth 65536 in
set_option maxHeartbeats 40000000 in
theorem rm9 (l : Launch) (Z : State) (a0 : Array Value) (hw : ∀ d ∈ tables_1, d.before a0 Z = true) (ws : List Jvm.Cond) (a1 : Addr) (aH : Addr) (aF : Addr) (bk : Addr) (bh : Addr) (bg : Addr) (ag : Addr) (A : List Addr) (O : List Addr) (D : List Addr) (Un : List Addr) (s' : Nat) (f : Nat) (h0 : Heap) (n0 : Nat) (Z0 : n0 ≤ h0.size) (HW : own_W Z h0 n0 aH aF a1 bk bh bg ag A O D Un s' f) :
    MetFree l (⟨"com/example/hedgewalk/hedgewalk/eval/GoalQueue", "hasOpen", "()Z"⟩ : MethodName) (head1 (Jvm.Cond.code (⟨"com/example/hedgewalk/hedgewalk/eval/GoalQueue", "hasOpen", "()Z"⟩ : MethodName) prog_34_method_2_code 1 (some .boolean) :: ws) ({ frames := 0, cells := 0, slots := 0, locals := 0 } : Room)) (fun a U => a = #[(.ref a1)] ∧ Z.Warmed39 U.vm ∧ U.heap = h0) (fun _ _ _ _ _ => True) (fun _ U o U' => ∃ v L, o = .returned v ∧ QI (own_h O) h0 n0 v U'.heap L ∧ FrameEnd U o U' L ({ frames := 0, cells := 0, slots := 0, locals := 0 } : Room).cells ({ frames := 0, cells := 0, slots := 0, locals := 0 } : Room).slots) := by
  refine MetFree.of_bodySF (plainFor_of_name pn_8) hisR ?_
  intro p e s m args below meth c s₁ Bd hml0 hP hK
  obtain ⟨rfl, hZ, hh⟩ := hP
  have hx := Bd.exec
  have hby := Bd.bytes
  have hml : c.maxLocals = 1 := hml0
  have hown : s.vm.findClass "com/example/hedgewalk/hedgewalk/eval/GoalQueue" = some m.cls := findClass_of_methodNamed Bd.named
  have hnm := (name_of_methodNamed Bd.named Bd.method).1
  have hlk : meth.locks = false := BodyLoose.notSynchronized Bd
  have X0 : Stand p l e ({ frames := 0, cells := 0, slots := 0, locals := 0 } : Room) s m #[(.ref a1)] below meth c s₁ [] 0 0 := Stand.of_body Bd
  have e0 : s₁.heap = h0 := by rw [← hh, Bd.state]; rfl
  have N0 := Fr.nil n0
  refine own_start (Q := QI (own_h O) h0 n0) (ef_9 m a1) ?_
  obtain ⟨K, H, G, ⟨E_a1, F_keys, F_holders, F_goals, F_size, F_first, V_bk, V_bh, V_bg, O_bg, g_a1, g_bk, g_bh, g_bg⟩, HP, hfs, hK, hH, HD, S_H, S_F, E_ag, hDA, hDU⟩ := HW
  have h3 := HP.1
  have h3' := HP.2.1
  have hln := HP.2.2.2.1
  show own_Go p e below _ s₁ (mkF m 0 #[.val (.ref a1)] [])
  refine own_by (fun t_ k_ => XS.aloadN X0.here hx rfl (hb hby d9_0) rfl rfl k_) ?_
  show own_Go p e below _ s₁ (mkF m 1 #[.val (.ref a1)] [(.ref a1)])
  refine own_getF X0 hx hZ hown (own_w hw 72 rfl) Via.refl e0 F_first (hb hby d9_1) ?_
  intro T1 X1 e1
  show own_Go p e below _ T1 (mkF m 4 #[.val (.ref a1)] [(.int (Int32.ofNat f))])
  refine own_by (fun t_ k_ => XS.aloadN X1.here hx rfl (hb hby d9_4) rfl rfl k_) ?_
  show own_Go p e below _ T1 (mkF m 5 #[.val (.ref a1)] [(.ref a1), (.int (Int32.ofNat f))])
  refine own_getF X1 hx hZ hown (own_w hw 74 rfl) Via.refl e1 F_size (hb hby d9_5) ?_
  intro T2 X2 e2
  show own_Go p e below _ T2 (mkF m 8 #[.val (.ref a1)] [(.int (Int32.ofNat s')), (.int (Int32.ofNat f))])
  refine own_icmp X2 hx 15 (hb hby d9_8) (by decide) (by decide) (fun (hc8 : ¬ (Int32.ofNat f) < (Int32.ofNat s')) => ?_) (fun (hc8 : (Int32.ofNat f) < (Int32.ofNat s')) => ?_)
  · show own_Go p e below _ T2 (mkF m 15 #[.val (.ref a1)] [])
    refine own_by (fun t_ k_ => XS.iconst X2.here hx rfl (hb hby d9_15) k_) ?_
    show own_Go p e below _ T2 (mkF m 16 #[.val (.ref a1)] [(.int (0 : Int32))])
    refine own_retZ X2 hx hlk Bd.returns (by decide) (hb hby d9_16) e2 (by decide) (by decide) ?_
    exact ⟨by rw [own_h0 hln (Nat.sub_eq_zero_of_le (Nat.le_of_not_lt fun q => hc8 ((own_ltN (by omega) (by omega)).mpr q)))], N0, rfl⟩
  · show own_Go p e below _ T2 (mkF m 11 #[.val (.ref a1)] [])
    refine own_by (fun t_ k_ => XS.iconst X2.here hx rfl (hb hby d9_11) k_) ?_
    show own_Go p e below _ T2 (mkF m 12 #[.val (.ref a1)] [(.int (1 : Int32))])
    refine own_by (fun t_ k_ => XS.goto X2.here hx rfl (pc0 := 12) (pc' := 16) rfl (hb hby d9_12) (by decide) (by decide) k_) ?_
    show own_Go p e below _ T2 (mkF m 16 #[.val (.ref a1)] [(.int (1 : Int32))])
    refine own_retZ X2 hx hlk Bd.returns (by decide) (hb hby d9_16) e2 (by decide) (by decide) ?_
    exact ⟨by rw [own_h1 hln (by have := (own_ltN (by omega) (by omega)).mp hc8; omega)], N0, rfl⟩
theorem ef_16 (m : MethodId) (a1 : Addr) (y1 : Int64) (x1 : Int32) (a4 : Addr) : entryFrame m #[(.ref a1), (.long y1), (.int x1), (.ref a4)] 5 = mkF m 0 #[.val (.ref a1), .val (.long y1), .second, .val (.int x1), .val (.ref a4)] [] := by first | (simp [entryFrame, mkF, argsToLocals, Value.category]; done) | rfl
set_option maxRecDepth 65536 in
set_option maxHeartbeats 40000000 in
theorem rm16 (l : Launch) (Z : State) (a0 : Array Value) (hw : ∀ d ∈ tables_1, d.before a0 Z = true) (ws : List Jvm.Cond) (a1 : Addr) (y1 : Int64) (x1 : Int32) (a4 : Addr) (aH : Addr) (aF : Addr) (bk : Addr) (bh : Addr) (bg : Addr) (ag : Addr) (A : List Addr) (O : List Addr) (D : List Addr) (Un : List Addr) (s' : Nat) (f : Nat) (U2 : List Addr) (h0 : Heap) (n0 : Nat) (Z0 : n0 ≤ h0.size) (HW : own_W Z h0 n0 aH aF a1 bk bh bg ag A O D Un s' f) (hs : s' < 3) (hU : Un = a4 :: U2) (hA : a4 ∈ A) (hxU : a4 ∉ U2) (hxD : a4 ∉ D) :
    MetFree l (⟨"com/example/hedgewalk/hedgewalk/eval/GoalQueue", "add", "(JILcom/example/hedgewalk/hedgewalk/eval/Verdict$Listener;)V"⟩ : MethodName) (head1 (Jvm.Cond.code (⟨"com/example/hedgewalk/hedgewalk/eval/GoalQueue", "add", "(JILcom/example/hedgewalk/hedgewalk/eval/Verdict$Listener;)V"⟩ : MethodName) prog_34_method_3_code 5 none :: ws) ({ frames := 0, cells := 0, slots := 0, locals := 0 } : Room)) (fun a U => a = #[(.ref a1), (.long y1), (.int x1), (.ref a4)] ∧ Z.Warmed39 U.vm ∧ U.heap = h0) (fun _ _ _ _ _ => True) (fun _ U o U' => ∃ v L, o = .returned v ∧ Q16 Z aH aF a1 bk bh bg ag A (O ++ [a4]) (D ++ [a4]) U2 (s' + 1) f n0 v U'.heap L ∧ FrameEnd U o U' L ({ frames := 0, cells := 0, slots := 0, locals := 0 } : Room).cells ({ frames := 0, cells := 0, slots := 0, locals := 0 } : Room).slots) := by
  refine MetFree.of_bodySF (plainFor_of_name pn_8) hisR ?_
  intro p e s m args below meth c s₁ Bd hml0 hP hK
  obtain ⟨rfl, hZ, hh⟩ := hP
  have hx := Bd.exec
  have hby := Bd.bytes
  have hml : c.maxLocals = 5 := hml0
  have hown : s.vm.findClass "com/example/hedgewalk/hedgewalk/eval/GoalQueue" = some m.cls := findClass_of_methodNamed Bd.named
  have hnm := (name_of_methodNamed Bd.named Bd.method).1
  have hlk : meth.locks = false := BodyLoose.notSynchronized Bd
  have X0 : Stand p l e ({ frames := 0, cells := 0, slots := 0, locals := 0 } : Room) s m #[(.ref a1), (.long y1), (.int x1), (.ref a4)] below meth c s₁ [] 0 0 := Stand.of_body Bd
  have e0 : s₁.heap = h0 := by rw [← hh, Bd.state]; rfl
  have N0 := Fr.nil n0
  refine own_start (Q := Q16 Z aH aF a1 bk bh bg ag A (O ++ [a4]) (D ++ [a4]) U2 (s' + 1) f n0) (ef_16 m a1 y1 x1 a4) ?_
  obtain ⟨K, H, G, ⟨E_a1, F_keys, F_holders, F_goals, F_size, F_first, V_bk, V_bh, V_bg, O_bg, g_a1, g_bk, g_bh, g_bg⟩, HP, hfs, hK, hH, HD, S_H, S_F, E_ag, hDA, hDU⟩ := HW
  have h3 := HP.1
  have h3' := HP.2.1
  have hln := HP.2.2.2.1
  have hl4 := HP.2.2.1
  have E_a4 := (HD a4 hA).1.1
  have ne1 : a1 ≠ bk := own_exa_arr E_a1 (own_w hw 51 rfl) V_bk
  have ne2 : a1 ≠ bh := own_exa_arr E_a1 (own_w hw 51 rfl) V_bh
  have ne3 : a1 ≠ bg := own_exa_arr E_a1 (own_w hw 51 rfl) V_bg
  have ne4 : a1 ≠ a4 := ne_exa E_a1 E_a4 (by decide)
  have ne5 : a1 ≠ ag := ne_exa E_a1 E_ag (by decide)
  have ne6 : bk ≠ bh := own_Arr.ne V_bk V_bh (by decide)
  have ne7 : bk ≠ bg := own_Arr.ne V_bk V_bg (by decide)
  have ne8 : bk ≠ a4 := Ne.symm (own_exa_arr E_a4 (own_w hw 34 rfl) V_bk)
  have ne9 : bk ≠ ag := Ne.symm (own_exa_arr E_ag (own_w hw 4 rfl) V_bk)
  have ne10 : bh ≠ bg := own_Arr.ne V_bh V_bg (by decide)
  have ne11 : bh ≠ a4 := Ne.symm (own_exa_arr E_a4 (own_w hw 34 rfl) V_bh)
  have ne12 : bh ≠ ag := Ne.symm (own_exa_arr E_ag (own_w hw 4 rfl) V_bh)
  have ne13 : bg ≠ a4 := Ne.symm (own_exa_arr E_a4 (own_w hw 34 rfl) V_bg)
  have ne14 : bg ≠ ag := Ne.symm (own_exa_arr E_ag (own_w hw 4 rfl) V_bg)
  have ne15 : a4 ≠ ag := ne_exa E_a4 E_ag (by decide)
  show own_Go p e below _ s₁ (mkF m 0 #[.val (.ref a1), .val (.long y1), .second, .val (.int x1), .val (.ref a4)] [])
  refine own_by (fun t_ k_ => XS.aloadN X0.here hx rfl (hb hby d16_0) rfl rfl k_) ?_
  show own_Go p e below _ s₁ (mkF m 1 #[.val (.ref a1), .val (.long y1), .second, .val (.int x1), .val (.ref a4)] [(.ref a1)])
  refine own_getF X0 hx hZ hown (own_w hw 74 rfl) Via.refl e0 F_size (hb hby d16_1) ?_
  intro T16 X16 e16
  show own_Go p e below _ T16 (mkF m 4 #[.val (.ref a1), .val (.long y1), .second, .val (.int x1), .val (.ref a4)] [(.int (Int32.ofNat s'))])
  refine own_by (fun t_ k_ => XS.aloadN X16.here hx rfl (hb hby d16_4) rfl rfl k_) ?_
  show own_Go p e below _ T16 (mkF m 5 #[.val (.ref a1), .val (.long y1), .second, .val (.int x1), .val (.ref a4)] [(.ref a1), (.int (Int32.ofNat s'))])
  refine own_getF X16 hx hZ hown (own_w hw 65 rfl) Via.refl e16 F_goals (hb hby d16_5) ?_
  intro T17 X17 e17
  show own_Go p e below _ T17 (mkF m 8 #[.val (.ref a1), .val (.long y1), .second, .val (.int x1), .val (.ref a4)] [(.ref bg), (.int (Int32.ofNat s'))])
  refine own_alen X17 hx hZ e17 V_bg (hb hby d16_8) ?_
  show own_Go p e below _ T17 (mkF m 9 #[.val (.ref a1), .val (.long y1), .second, .val (.int x1), .val (.ref a4)] [(.int (G).length.toInt32), (.int (Int32.ofNat s'))])
  refine own_icmp X17 hx 66 (hb hby d16_9) (by decide) (by decide) (fun _ => ?_) (fun hc => absurd (show ¬ (Int32.ofNat s') = (G).length.toInt32 from own_ne4 (by omega) hl4) (by first | exact hc | exact not_not_intro hc))
  show own_Go p e below _ T17 (mkF m 66 #[.val (.ref a1), .val (.long y1), .second, .val (.int x1), .val (.ref a4)] [])
  refine own_by (fun t_ k_ => XS.aloadN X17.here hx rfl (hb hby d16_66) rfl rfl k_) ?_
  show own_Go p e below _ T17 (mkF m 67 #[.val (.ref a1), .val (.long y1), .second, .val (.int x1), .val (.ref a4)] [(.ref a1)])
  refine own_getF X17 hx hZ hown (own_w hw 58 rfl) Via.refl e17 F_keys (hb hby d16_67) ?_
  intro T18 X18 e18
  show own_Go p e below _ T18 (mkF m 70 #[.val (.ref a1), .val (.long y1), .second, .val (.int x1), .val (.ref a4)] [(.ref bk)])
  refine own_by (fun t_ k_ => XS.aloadN X18.here hx rfl (hb hby d16_70) rfl rfl k_) ?_
  show own_Go p e below _ T18 (mkF m 71 #[.val (.ref a1), .val (.long y1), .second, .val (.int x1), .val (.ref a4)] [(.ref a1), (.ref bk)])
  refine own_getF X18 hx hZ hown (own_w hw 74 rfl) Via.refl e18 F_size (hb hby d16_71) ?_
  intro T19 X19 e19
  show own_Go p e below _ T19 (mkF m 74 #[.val (.ref a1), .val (.long y1), .second, .val (.int x1), .val (.ref a4)] [(.int (Int32.ofNat s')), (.ref bk)])
  refine own_by (fun t_ k_ => XT.lloadN X19.here hx rfl (hb hby d16_74) rfl k_) ?_
  show own_Go p e below _ T19 (mkF m 75 #[.val (.ref a1), .val (.long y1), .second, .val (.int x1), .val (.ref a4)] [(.long y1), (.int (Int32.ofNat s')), (.ref bk)])
  refine own_lastore X19 hx hZ e19 V_bk s' (own_ofi (by omega)) (by simp only [List.length_set, List.length_map]; omega) (hb hby d16_75) ?_
  intro T20 h20 X20 e20 W20 A20
  have V20_0 : own_Arr Z h20 bk .long ((K.map Value.long).set s' (.long y1)) := A20
  have N20 := Fr.snoc X20 N0 g_bk
  have sz20 : n0 ≤ h20.size := Nat.le_trans Z0 (Keep.of_wr W20).1
  show own_Go p e below _ T20 (mkF m 76 #[.val (.ref a1), .val (.long y1), .second, .val (.int x1), .val (.ref a4)] [])
  refine own_by (fun t_ k_ => XS.aloadN X20.here hx rfl (hb hby d16_76) rfl rfl k_) ?_
  show own_Go p e below _ T20 (mkF m 77 #[.val (.ref a1), .val (.long y1), .second, .val (.int x1), .val (.ref a4)] [(.ref a1)])
  have F_holders_22 : Fld Z h20 a1 "com/example/hedgewalk/hedgewalk/eval/GoalQueue" "holders" "[I" (.ref bh) := (Fld.other W20 F_holders (Or.inl ne1))
  refine own_getF X20 hx hZ hown (own_w hw 61 rfl) Via.refl e20 F_holders_22 (hb hby d16_77) ?_
  intro T21 X21 e21
  show own_Go p e below _ T21 (mkF m 80 #[.val (.ref a1), .val (.long y1), .second, .val (.int x1), .val (.ref a4)] [(.ref bh)])
  refine own_by (fun t_ k_ => XS.aloadN X21.here hx rfl (hb hby d16_80) rfl rfl k_) ?_
  show own_Go p e below _ T21 (mkF m 81 #[.val (.ref a1), .val (.long y1), .second, .val (.int x1), .val (.ref a4)] [(.ref a1), (.ref bh)])
  have F_size_24 : Fld Z h20 a1 "com/example/hedgewalk/hedgewalk/eval/GoalQueue" "size" "I" (.int (Int32.ofNat s')) := (Fld.other W20 F_size (Or.inl ne1))
  refine own_getF X21 hx hZ hown (own_w hw 74 rfl) Via.refl e21 F_size_24 (hb hby d16_81) ?_
  intro T23 X23 e23
  show own_Go p e below _ T23 (mkF m 84 #[.val (.ref a1), .val (.long y1), .second, .val (.int x1), .val (.ref a4)] [(.int (Int32.ofNat s')), (.ref bh)])
  refine own_by (fun t_ k_ => XS.iloadN X23.here hx rfl (hb hby d16_84) rfl k_) ?_
  show own_Go p e below _ T23 (mkF m 85 #[.val (.ref a1), .val (.long y1), .second, .val (.int x1), .val (.ref a4)] [(.int x1), (.int (Int32.ofNat s')), (.ref bh)])
  have V_bh_26 : own_Arr Z h20 bh .int (H.map Value.int) := (own_Arr.other V_bh W20 (Ne.symm ne6))
  refine own_iastore X23 hx hZ e23 V_bh_26 s' (own_ofi (by omega)) (by simp only [List.length_set, List.length_map]; omega) (hb hby d16_85) ?_
  intro T25 h25 X25 e25 W25 A25
  have V25_0 : own_Arr Z h25 bh .int ((H.map Value.int).set s' (.int x1)) := A25
  have N25 := Fr.snoc X25 N20 g_bh
  have sz25 : n0 ≤ h25.size := Nat.le_trans sz20 (Keep.of_wr W25).1
  show own_Go p e below _ T25 (mkF m 86 #[.val (.ref a1), .val (.long y1), .second, .val (.int x1), .val (.ref a4)] [])
  refine own_by (fun t_ k_ => XS.aloadN X25.here hx rfl (hb hby d16_86) rfl rfl k_) ?_
  show own_Go p e below _ T25 (mkF m 87 #[.val (.ref a1), .val (.long y1), .second, .val (.int x1), .val (.ref a4)] [(.ref a1)])
  have F_goals_28 : Fld Z h25 a1 "com/example/hedgewalk/hedgewalk/eval/GoalQueue" "goals" "[Lcom/example/hedgewalk/hedgewalk/eval/Verdict$Listener;" (.ref bg) := (Fld.other W25 (Fld.other W20 F_goals (Or.inl ne1)) (Or.inl ne2))
  refine own_getF X25 hx hZ hown (own_w hw 65 rfl) Via.refl e25 F_goals_28 (hb hby d16_87) ?_
  intro T27 X27 e27
  show own_Go p e below _ T27 (mkF m 90 #[.val (.ref a1), .val (.long y1), .second, .val (.int x1), .val (.ref a4)] [(.ref bg)])
  refine own_by (fun t_ k_ => XS.aloadN X27.here hx rfl (hb hby d16_90) rfl rfl k_) ?_
  show own_Go p e below _ T27 (mkF m 91 #[.val (.ref a1), .val (.long y1), .second, .val (.int x1), .val (.ref a4)] [(.ref a1), (.ref bg)])
  have F_size_30 : Fld Z h25 a1 "com/example/hedgewalk/hedgewalk/eval/GoalQueue" "size" "I" (.int (Int32.ofNat s')) := (Fld.other W25 F_size_24 (Or.inl ne2))
  refine own_getF X27 hx hZ hown (own_w hw 74 rfl) Via.refl e27 F_size_30 (hb hby d16_91) ?_
  intro T29 X29 e29
  show own_Go p e below _ T29 (mkF m 94 #[.val (.ref a1), .val (.long y1), .second, .val (.int x1), .val (.ref a4)] [(.int (Int32.ofNat s')), (.ref bg)])
  refine own_by (fun t_ k_ => XS.aload X29.here hx rfl (hb hby d16_94) rfl rfl k_) ?_
  show own_Go p e below _ T29 (mkF m 96 #[.val (.ref a1), .val (.long y1), .second, .val (.int x1), .val (.ref a4)] [(.ref a4), (.int (Int32.ofNat s')), (.ref bg)])
  have V_bg_32 : own_Arr Z h25 bg (.object "com/example/hedgewalk/hedgewalk/eval/Verdict$Listener") G := (own_Arr.other (own_Arr.other V_bg W20 (Ne.symm ne7)) W25 (Ne.symm ne10))
  have O_bg_33 : own_Ovr Z h25 bg "com/example/hedgewalk/hedgewalk/eval/Verdict$Listener" := (own_Ovr.wr (own_Ovr.wr O_bg W20) W25)
  have E_a4_34 : Exa Z h25 a4 "com/example/hedgewalk/hedgewalk/eval/Verdict$Told" := (Exa.wr W25 (Exa.wr W20 E_a4))
  refine own_aastore X29 hx hZ e29 V_bg_32 rfl (own_Ovr.sto O_bg_33 (Ins.of_exa E_a4_34 (own_w hw 106 rfl))) rfl s' (own_ofi (by omega)) (by omega) (hb hby d16_96) ?_
  intro T31 h31 X31 e31 W31 A31
  have V31_0 : own_Arr Z h31 bg (.object "com/example/hedgewalk/hedgewalk/eval/Verdict$Listener") (G.set s' (.ref a4)) := A31
  have N31 := Fr.snoc X31 N25 g_bg
  have sz31 : n0 ≤ h31.size := Nat.le_trans sz25 (Keep.of_wr W31).1
  show own_Go p e below _ T31 (mkF m 97 #[.val (.ref a1), .val (.long y1), .second, .val (.int x1), .val (.ref a4)] [])
  refine own_by (fun t_ k_ => XS.aloadN X31.here hx rfl (hb hby d16_97) rfl rfl k_) ?_
  show own_Go p e below _ T31 (mkF m 98 #[.val (.ref a1), .val (.long y1), .second, .val (.int x1), .val (.ref a4)] [(.ref a1)])
  refine own_by (fun t_ k_ => XS.dup X31.here hx rfl (hb hby d16_98) rfl rfl k_) ?_
  show own_Go p e below _ T31 (mkF m 99 #[.val (.ref a1), .val (.long y1), .second, .val (.int x1), .val (.ref a4)] [(.ref a1), (.ref a1)])
  have F_size_36 : Fld Z h31 a1 "com/example/hedgewalk/hedgewalk/eval/GoalQueue" "size" "I" (.int (Int32.ofNat s')) := (Fld.other W31 F_size_30 (Or.inl ne3))
  refine own_getF X31 hx hZ hown (own_w hw 74 rfl) Via.refl e31 F_size_36 (hb hby d16_99) ?_
  intro T35 X35 e35
  show own_Go p e below _ T35 (mkF m 102 #[.val (.ref a1), .val (.long y1), .second, .val (.int x1), .val (.ref a4)] [(.int (Int32.ofNat s')), (.ref a1)])
  refine own_by (fun t_ k_ => XS.iconst X35.here hx rfl (hb hby d16_102) k_) ?_
  show own_Go p e below _ T35 (mkF m 103 #[.val (.ref a1), .val (.long y1), .second, .val (.int x1), .val (.ref a4)] [(.int (1 : Int32)), (.int (Int32.ofNat s')), (.ref a1)])
  refine own_by (fun t_ k_ => XS.iadd X35.here hx rfl (hb hby d16_103) rfl k_) ?_
  show own_Go p e below _ T35 (mkF m 104 #[.val (.ref a1), .val (.long y1), .second, .val (.int x1), .val (.ref a4)] [(.int ((Int32.ofNat s') + (1 : Int32))), (.ref a1)])
  have E_a1_38 : Exa Z h31 a1 "com/example/hedgewalk/hedgewalk/eval/GoalQueue" := (Exa.wr W31 (Exa.wr W25 (Exa.wr W20 E_a1)))
  refine own_putF X35 hx hZ hown (own_w hw 74 rfl) Via.refl e35 F_size_36 E_a1_38 (Or.inl (own_w hw 75 rfl)) (own_w hw 51 rfl) (ty := .int) (by decide) rfl rfl (hb hby d16_104) ?_
  intro T37 h37 X37 e37 W37
  have F37 := Fld.same W37 F_size_36
  have N37 := Fr.snoc X37 N31 g_a1
  have sz37 : n0 ≤ h37.size := Nat.le_trans sz31 (Keep.of_wr W37).1
  show own_Go p e below _ T37 (mkF m 107 #[.val (.ref a1), .val (.long y1), .second, .val (.int x1), .val (.ref a4)] [])
  refine own_retV X37 hx hlk Bd.returns (hb hby d16_107) e37 (by decide) (by decide) ?_
  have E_a1_39 : Exa Z h37 a1 "com/example/hedgewalk/hedgewalk/eval/GoalQueue" := (Exa.wr W37 E_a1_38)
  have F_keys_40 : Fld Z h37 a1 "com/example/hedgewalk/hedgewalk/eval/GoalQueue" "keys" "[J" (.ref bk) := (Fld.other W37 (Fld.other W31 (Fld.other W25 (Fld.other W20 F_keys (Or.inl ne1)) (Or.inl ne2)) (Or.inl ne3)) (Or.inr (slot_ne (Or.inl (own_w hw 59 rfl)) (Or.inl (own_w hw 75 rfl)) (by decide) (t := (.array .long)) (t' := .int) (by decide) (by decide))))
  have F_holders_41 : Fld Z h37 a1 "com/example/hedgewalk/hedgewalk/eval/GoalQueue" "holders" "[I" (.ref bh) := (Fld.other W37 (Fld.other W31 (Fld.other W25 F_holders_22 (Or.inl ne2)) (Or.inl ne3)) (Or.inr (slot_ne (Or.inl (own_w hw 62 rfl)) (Or.inl (own_w hw 75 rfl)) (by decide) (t := (.array .int)) (t' := .int) (by decide) (by decide))))
  have F_goals_42 : Fld Z h37 a1 "com/example/hedgewalk/hedgewalk/eval/GoalQueue" "goals" "[Lcom/example/hedgewalk/hedgewalk/eval/Verdict$Listener;" (.ref bg) := (Fld.other W37 (Fld.other W31 F_goals_28 (Or.inl ne3)) (Or.inr (slot_ne (Or.inl (own_w hw 66 rfl)) (Or.inl (own_w hw 75 rfl)) (by decide) (t := (.array (.object "com/example/hedgewalk/hedgewalk/eval/Verdict$Listener"))) (t' := .int) (by decide) (by decide))))
  have F_first_43 : Fld Z h37 a1 "com/example/hedgewalk/hedgewalk/eval/GoalQueue" "firstOpen" "I" (.int (Int32.ofNat f)) := (Fld.other W37 (Fld.other W31 (Fld.other W25 (Fld.other W20 F_first (Or.inl ne1)) (Or.inl ne2)) (Or.inl ne3)) (Or.inr (slot_ne (Or.inl (own_w hw 73 rfl)) (Or.inl (own_w hw 75 rfl)) (by decide) (t := .int) (t' := .int) (by decide) (by decide))))
  have V20_44 : own_Arr Z h37 bk .long ((K.map Value.long).set s' (.long y1)) := (own_Arr.other (own_Arr.other (own_Arr.other V20_0 W25 ne6) W31 ne7) W37 (Ne.symm ne1))
  have V25_45 : own_Arr Z h37 bh .int ((H.map Value.int).set s' (.int x1)) := (own_Arr.other (own_Arr.other V25_0 W31 ne10) W37 (Ne.symm ne2))
  have V31_46 : own_Arr Z h37 bg (.object "com/example/hedgewalk/hedgewalk/eval/Verdict$Listener") (G.set s' (.ref a4)) := (own_Arr.other V31_0 W37 (Ne.symm ne3))
  have O_bg_47 : own_Ovr Z h37 bg "com/example/hedgewalk/hedgewalk/eval/Verdict$Listener" := (own_Ovr.wr (own_Ovr.wr O_bg_33 W31) W37)
  have HD_48 : own_D Z h37 n0 aH aF (O ++ Un) A := (own_D.wrE (own_D.keepA (own_D.keepA (own_D.keepA HD (Keep.of_wr W20) V_bk (own_w hw 34 rfl)) (Keep.of_wr W25) V_bh_26 (own_w hw 34 rfl)) (Keep.of_wr W31) V_bg_32 (own_w hw 34 rfl)) W37 E_a1_38)
  have S_H_49 : Sta Z h37 "com/example/hedgewalk/hedgewalk/eval/Verdict" "HOLDS" "Ljava/lang/Object;" (.ref aH) := (Sta.wr W37 (Sta.wr W31 (Sta.wr W25 (Sta.wr W20 S_H))))
  have S_F_50 : Sta Z h37 "com/example/hedgewalk/hedgewalk/eval/Verdict" "FAILS" "Ljava/lang/Object;" (.ref aF) := (Sta.wr W37 (Sta.wr W31 (Sta.wr W25 (Sta.wr W20 S_F))))
  have E_ag_51 : Exa Z h37 ag "com/example/hedgewalk/hedgewalk/eval/Agenda" := (Exa.wr W37 (Exa.wr W31 (Exa.wr W25 (Exa.wr W20 E_ag))))
  subst hU
  exact ⟨rfl, N37, K.set s' y1, H.set s' x1, _, ⟨E_a1_39, F_keys_40, F_holders_41, F_goals_42, (by rw [← own_ofs]; exact F37), F_first_43, own_Arr.cast V20_44 own_ct1, own_Arr.cast V25_45 own_un1, V31_46, O_bg_47, g_a1, g_bk, g_bh, g_bg⟩, HP.put hfs hs hxD, by omega, by rw [List.length_set]; exact hK, by rw [List.length_set]; exact hH, own_D.iff HD_48 (fun x _ => by simp), S_H_49, S_F_50, E_ag_51, fun x hx => (List.mem_append.mp hx).elim (hDA x) fun q => List.mem_singleton.mp q ▸ hA, fun x hx => (List.mem_append.mp hx).elim (fun q z => hDU x q (List.mem_cons_of_mem _ z)) fun q => List.mem_singleton.mp q ▸ hxU⟩
theorem ef_23 (m : MethodId) (n1 : Int32) (i1 : Int32) (j1 : Int32) : entryFrame m #[(.int n1), (.int i1), (.int j1)] 3 = mkF m 0 #[.val (.int n1), .val (.int i1), .val (.int j1)] [] := by first | (simp [entryFrame, mkF, argsToLocals, Value.category]; done) | rfl
set_option maxRecDepth 65536 in
set_option maxHeartbeats 40000000 in
theorem rm23 (l : Launch) (Z : State) (a0 : Array Value) (hw : ∀ d ∈ tables_1, d.before a0 Z = true) (ws : List Jvm.Cond) (n1 : Int32) (i1 : Int32) (j1 : Int32) (h0 : Heap) (n0 : Nat) (Z0 : n0 ≤ h0.size) (q1 : ¬ j1 < i1) (q2 : ¬ i1 < 0) (q3 : ¬ n1 < j1) :
    MetFree l (⟨"java/util/Arrays", "rangeCheck", "(III)V"⟩ : MethodName) (head1 (Jvm.Cond.code (⟨"java/util/Arrays", "rangeCheck", "(III)V"⟩ : MethodName) jdk_65_method_30_code 3 none :: ws) ({ frames := 0, cells := 0, slots := 0, locals := 0 } : Room)) (fun a U => a = #[(.int n1), (.int i1), (.int j1)] ∧ Z.Warmed39 U.vm ∧ U.heap = h0) (fun _ _ _ _ _ => True) (fun _ U o U' => ∃ v L, o = .returned v ∧ QN h0 n0 v U'.heap L ∧ FrameEnd U o U' L ({ frames := 0, cells := 0, slots := 0, locals := 0 } : Room).cells ({ frames := 0, cells := 0, slots := 0, locals := 0 } : Room).slots) := by
  refine MetFree.of_bodySF (plainFor_of_name pn_22) hisR ?_
  intro p e s m args below meth c s₁ Bd hml0 hP hK
  obtain ⟨rfl, hZ, hh⟩ := hP
  have hx := Bd.exec
  have hby := Bd.bytes
  have hml : c.maxLocals = 3 := hml0
  have hown : s.vm.findClass "java/util/Arrays" = some m.cls := findClass_of_methodNamed Bd.named
  have hnm := (name_of_methodNamed Bd.named Bd.method).1
  have hlk : meth.locks = false := BodyLoose.notSynchronized Bd
  have X0 : Stand p l e ({ frames := 0, cells := 0, slots := 0, locals := 0 } : Room) s m #[(.int n1), (.int i1), (.int j1)] below meth c s₁ [] 0 0 := Stand.of_body Bd
  have e0 : s₁.heap = h0 := by rw [← hh, Bd.state]; rfl
  have N0 := Fr.nil n0
  refine own_start (Q := QN h0 n0) (ef_23 m n1 i1 j1) ?_
  show own_Go p e below _ s₁ (mkF m 0 #[.val (.int n1), .val (.int i1), .val (.int j1)] [])
  refine own_by (fun t_ k_ => XS.iloadN X0.here hx rfl (hb hby d23_0) rfl k_) ?_
  show own_Go p e below _ s₁ (mkF m 1 #[.val (.int n1), .val (.int i1), .val (.int j1)] [(.int i1)])
  refine own_by (fun t_ k_ => XS.iloadN X0.here hx rfl (hb hby d23_1) rfl k_) ?_
  show own_Go p e below _ s₁ (mkF m 2 #[.val (.int n1), .val (.int i1), .val (.int j1)] [(.int j1), (.int i1)])
  refine own_icmp X0 hx 46 (hb hby d23_2) (by decide) (by decide) (fun _ => ?_) (fun hc => absurd (show ¬ j1 < i1 from q1) (by first | exact hc | exact not_not_intro hc))
  show own_Go p e below _ s₁ (mkF m 46 #[.val (.int n1), .val (.int i1), .val (.int j1)] [])
  refine own_by (fun t_ k_ => XS.iloadN X0.here hx rfl (hb hby d23_46) rfl k_) ?_
  show own_Go p e below _ s₁ (mkF m 47 #[.val (.int n1), .val (.int i1), .val (.int j1)] [(.int i1)])
  refine own_if X0 hx 59 (hb hby d23_47) (by decide) (by decide) (fun _ => ?_) (fun hc => absurd (show ¬ i1 < (0 : Int32) from q2) (by first | exact hc | exact not_not_intro hc))
  show own_Go p e below _ s₁ (mkF m 59 #[.val (.int n1), .val (.int i1), .val (.int j1)] [])
  refine own_by (fun t_ k_ => XS.iloadN X0.here hx rfl (hb hby d23_59) rfl k_) ?_
  show own_Go p e below _ s₁ (mkF m 60 #[.val (.int n1), .val (.int i1), .val (.int j1)] [(.int j1)])
  refine own_by (fun t_ k_ => XS.iloadN X0.here hx rfl (hb hby d23_60) rfl k_) ?_
  show own_Go p e below _ s₁ (mkF m 61 #[.val (.int n1), .val (.int i1), .val (.int j1)] [(.int n1), (.int j1)])
  refine own_icmp X0 hx 73 (hb hby d23_61) (by decide) (by decide) (fun _ => ?_) (fun hc => absurd (show ¬ n1 < j1 from q3) (by first | exact hc | exact not_not_intro hc))
  show own_Go p e below _ s₁ (mkF m 73 #[.val (.int n1), .val (.int i1), .val (.int j1)] [])
  refine own_retV X0 hx hlk Bd.returns (hb hby d23_73) e0 (by decide) (by decide) ?_
  exact ⟨rfl, N0, rfl⟩
theorem ef_22 (m : MethodId) (a1 : Addr) (i1 : Int32) (j1 : Int32) : entryFrame m #[(.ref a1), (.int i1), (.int j1), .null] 5 = mkF m 0 #[.val (.ref a1), .val (.int i1), .val (.int j1), .val .null, .unset] [] := by first | (simp [entryFrame, mkF, argsToLocals, Value.category]; done) | rfl
set_option maxRecDepth 65536 in
set_option maxHeartbeats 40000000 in
theorem rm22 (l : Launch) (Z : State) (a0 : Array Value) (hw : ∀ d ∈ tables_1, d.before a0 Z = true) (ws : List Jvm.Cond) (a1 : Addr) (i1 : Int32) (j1 : Int32) (G : List Value) (i0 : Nat) (j0 : Nat) (h0 : Heap) (n0 : Nat) (Z0 : n0 ≤ h0.size) (V_a1 : own_Arr Z h0 a1 (.object "com/example/hedgewalk/hedgewalk/eval/Verdict$Listener") G) (hi0 : i1.toInt = (i0 : Int)) (hj0 : j1.toInt = (j0 : Int)) (hij : i0 ≤ j0) (hjl : j0 ≤ G.length) (g_a1 : n0 ≤ a1) :
    MetFree l (⟨"java/util/Arrays", "fill", "([Ljava/lang/Object;IILjava/lang/Object;)V"⟩ : MethodName) (head1 (Jvm.Cond.code (⟨"java/util/Arrays", "fill", "([Ljava/lang/Object;IILjava/lang/Object;)V"⟩ : MethodName) jdk_65_method_118_code 5 none :: ws) ({ frames := 1, cells := 0, slots := 0, locals := 14 } : Room)) (fun a U => a = #[(.ref a1), (.int i1), (.int j1), .null] ∧ Z.Warmed39 U.vm ∧ U.heap = h0) (fun _ _ _ _ _ => True) (fun _ U o U' => ∃ v L, o = .returned v ∧ Q22 Z a1 (.object "com/example/hedgewalk/hedgewalk/eval/Verdict$Listener") G i0 h0 n0 v U'.heap L ∧ FrameEnd U o U' L ({ frames := 1, cells := 0, slots := 0, locals := 14 } : Room).cells ({ frames := 1, cells := 0, slots := 0, locals := 14 } : Room).slots) := by
  refine MetFree.of_bodySF (plainFor_of_name pn_22) hisR ?_
  intro p e s m args below meth c s₁ Bd hml0 hP hK
  obtain ⟨rfl, hZ, hh⟩ := hP
  have hx := Bd.exec
  have hby := Bd.bytes
  have hml : c.maxLocals = 5 := hml0
  have hown : s.vm.findClass "java/util/Arrays" = some m.cls := findClass_of_methodNamed Bd.named
  have hnm := (name_of_methodNamed Bd.named Bd.method).1
  have hlk : meth.locks = false := BodyLoose.notSynchronized Bd
  have X0 : Stand p l e ({ frames := 1, cells := 0, slots := 0, locals := 14 } : Room) s m #[(.ref a1), (.int i1), (.int j1), .null] below meth c s₁ [] 0 0 := Stand.of_body Bd
  have e0 : s₁.heap = h0 := by rw [← hh, Bd.state]; rfl
  have N0 := Fr.nil n0
  refine own_start (Q := Q22 Z a1 (.object "com/example/hedgewalk/hedgewalk/eval/Verdict$Listener") G i0 h0 n0) (ef_22 m a1 i1 j1) ?_
  have hgl := V_a1.len
  have hn : (G).length.toInt32.toInt = (G.length : Int) := len_toInt hgl
  have k0 : (0 : Int32).toInt = 0 := by decide
  have lp : ∀ (f : Nat) (T : State) (h1 : Heap) (L : List Loc) (i : Int32) (I : Nat) (G' : List Value), Stand p l e ({ frames := 1, cells := 0, slots := 0, locals := 14 } : Room) s m #[(.ref a1), (.int i1), (.int j1), .null] below meth c T L 0 0 → T.heap = h1 → Fr n0 L → n0 ≤ h1.size → Keep h0 h1 [a1] → I + f = j0 → i0 ≤ I → i.toInt = (I : Int) → own_Arr Z h1 a1 (.object "com/example/hedgewalk/hedgewalk/eval/Verdict$Listener") G' → G'.length = G.length → (∀ i : Nat, i < i0 → G'[i]? = G[i]?) → own_Go p e below (own_Fin s (Q22 Z a1 (.object "com/example/hedgewalk/hedgewalk/eval/Verdict$Listener") G i0 h0 n0) ({ frames := 1, cells := 0, slots := 0, locals := 14 } : Room).cells ({ frames := 1, cells := 0, slots := 0, locals := 14 } : Room).slots) T (mkF m 10 #[.val (.ref a1), .val (.int i1), .val (.int j1), .val .null, .val (.int i)] []) := by
    intro f
    induction f with
    | zero =>
      intro T h1 L i I G' X eT N sz1 K1 hI hiI hi V1 hlG HG
      show own_Go p e below _ T (mkF m 10 #[.val (.ref a1), .val (.int i1), .val (.int j1), .val .null, .val (.int i)] [])
      refine own_by (fun t_ k_ => XS.iload X.here hx rfl (hb hby d22_10) rfl k_) ?_
      show own_Go p e below _ T (mkF m 12 #[.val (.ref a1), .val (.int i1), .val (.int j1), .val .null, .val (.int i)] [(.int i)])
      refine own_by (fun t_ k_ => XS.iloadN X.here hx rfl (hb hby d22_12) rfl k_) ?_
      show own_Go p e below _ T (mkF m 13 #[.val (.ref a1), .val (.int i1), .val (.int j1), .val .null, .val (.int i)] [(.int j1), (.int i)])
      refine own_icmp X hx 27 (hb hby d22_13) (by decide) (by decide) (fun _ => ?_) (fun hc => absurd (show ¬ i < j1 from own_nlt hi hj0 (by omega)) (by first | exact hc | exact not_not_intro hc))
      show own_Go p e below _ T (mkF m 27 #[.val (.ref a1), .val (.int i1), .val (.int j1), .val .null, .val (.int i)] [])
      refine own_retV X hx hlk Bd.returns (hb hby d22_27) eT (by decide) (by decide) ?_
      exact ⟨G', rfl, N, K1, V1, hlG, HG⟩
    | succ f ih =>
      intro T h1 L i I G' X eT N sz1 K1 hI hiI hi V1 hlG HG
      show own_Go p e below _ T (mkF m 10 #[.val (.ref a1), .val (.int i1), .val (.int j1), .val .null, .val (.int i)] [])
      refine own_by (fun t_ k_ => XS.iload X.here hx rfl (hb hby d22_10) rfl k_) ?_
      show own_Go p e below _ T (mkF m 12 #[.val (.ref a1), .val (.int i1), .val (.int j1), .val .null, .val (.int i)] [(.int i)])
      refine own_by (fun t_ k_ => XS.iloadN X.here hx rfl (hb hby d22_12) rfl k_) ?_
      show own_Go p e below _ T (mkF m 13 #[.val (.ref a1), .val (.int i1), .val (.int j1), .val .null, .val (.int i)] [(.int j1), (.int i)])
      refine own_icmp X hx 27 (hb hby d22_13) (by decide) (by decide) (fun hc => absurd (show i < j1 from own_ilt hi hj0 (by omega)) (by first | exact hc | exact not_not_intro hc)) (fun _ => ?_)
      show own_Go p e below _ T (mkF m 16 #[.val (.ref a1), .val (.int i1), .val (.int j1), .val .null, .val (.int i)] [])
      refine own_by (fun t_ k_ => XS.aloadN X.here hx rfl (hb hby d22_16) rfl rfl k_) ?_
      show own_Go p e below _ T (mkF m 17 #[.val (.ref a1), .val (.int i1), .val (.int j1), .val .null, .val (.int i)] [(.ref a1)])
      refine own_by (fun t_ k_ => XS.iload X.here hx rfl (hb hby d22_17) rfl k_) ?_
      show own_Go p e below _ T (mkF m 19 #[.val (.ref a1), .val (.int i1), .val (.int j1), .val .null, .val (.int i)] [(.int i), (.ref a1)])
      refine own_by (fun t_ k_ => XS.aloadN X.here hx rfl (hb hby d22_19) rfl rfl k_) ?_
      show own_Go p e below _ T (mkF m 20 #[.val (.ref a1), .val (.int i1), .val (.int j1), .val .null, .val (.int i)] [.null, (.int i), (.ref a1)])
      refine own_aastore X hx hZ eT V1 rfl (Or.inl rfl) rfl I hi (by omega) (hb hby d22_20) ?_
      intro T1 h1 X1 e1 W1 A1
      have V1_0 : own_Arr Z h1 a1 (.object "com/example/hedgewalk/hedgewalk/eval/Verdict$Listener") (G'.set I .null) := A1
      have N1 := Fr.snoc X1 N g_a1
      have sz1 : n0 ≤ h1.size := Nat.le_trans sz1 (Keep.of_wr W1).1
      have K1 : Keep h0 h1 [a1] := K1.wr W1 (Or.inl (List.mem_cons_self ..))
      show own_Go p e below _ T1 (mkF m 21 #[.val (.ref a1), .val (.int i1), .val (.int j1), .val .null, .val (.int i)] [])
      refine own_by (fun t_ k_ => XS.iinc X1.here hx rfl (hb hby d22_21) rfl (l' := #[.val (.ref a1), .val (.int i1), .val (.int j1), .val .null, .val (.int (i + (1 : Int32)))]) rfl k_) ?_
      show own_Go p e below _ T1 (mkF m 24 #[.val (.ref a1), .val (.int i1), .val (.int j1), .val .null, .val (.int (i + (1 : Int32)))] [])
      refine own_by (fun t_ k_ => XS.goto X1.here hx rfl (pc0 := 24) (pc' := 10) rfl (hb hby d22_24) (by decide) (by decide) k_) ?_
      exact ih _ _ _ _ (I + 1) _ X1 e1 N1 sz1 K1 (by omega) (by omega) (own_inc hi (by omega)) V1_0 (by rw [List.length_set]; exact hlG) (fun j hj => by rw [List.getElem?_set_ne (by omega)]; exact HG j hj)
  show own_Go p e below _ s₁ (mkF m 0 #[.val (.ref a1), .val (.int i1), .val (.int j1), .val .null, .unset] [])
  refine own_by (fun t_ k_ => XS.aloadN X0.here hx rfl (hb hby d22_0) rfl rfl k_) ?_
  show own_Go p e below _ s₁ (mkF m 1 #[.val (.ref a1), .val (.int i1), .val (.int j1), .val .null, .unset] [(.ref a1)])
  refine own_alen X0 hx hZ e0 V_a1 (hb hby d22_1) ?_
  show own_Go p e below _ s₁ (mkF m 2 #[.val (.ref a1), .val (.int i1), .val (.int j1), .val .null, .unset] [(.int (G).length.toInt32)])
  refine own_by (fun t_ k_ => XS.iloadN X0.here hx rfl (hb hby d22_2) rfl k_) ?_
  show own_Go p e below _ s₁ (mkF m 3 #[.val (.ref a1), .val (.int i1), .val (.int j1), .val .null, .unset] [(.int i1), (.int (G).length.toInt32)])
  refine own_by (fun t_ k_ => XS.iloadN X0.here hx rfl (hb hby d22_3) rfl k_) ?_
  show own_Go p e below _ s₁ (mkF m 4 #[.val (.ref a1), .val (.int i1), .val (.int j1), .val .null, .unset] [(.int j1), (.int i1), (.int (G).length.toInt32)])
  refine own_callS (W := 0) X0 hx hZ (y := (⟨"java/util/Arrays", "rangeCheck", "(III)V"⟩ : MethodName)) hown (own_w hw 149 rfl) (own_w hw 150 rfl) (own_w hw 147 rfl) (own_w hw 151 rfl) (by decide) (by rw [hml]; rfl) (argsL := [(.int (G).length.toInt32), (.int i1), (.int j1)]) pd_15 rfl (rm23 l Z a0 hw [] (G).length.toInt32 i1 j1 h0 n0 Z0 (own_nlt hj0 hi0 hij) (by rw [Int32.lt_iff_toInt_lt]; omega) (own_nlt hn hj0 hjl)) (by decide) (by decide) (Nat.le_of_eq rfl) (by decide) (by decide) (rest := []) e0 rfl (hb hby d22_4) ?_
  intro v1 T1 L1 X1 hQ1
  obtain ⟨rfl, N1q, e1⟩ := hQ1
  have N1 := Fr.app N0 N1q
  show own_Go p e below _ T1 (mkF m 7 #[.val (.ref a1), .val (.int i1), .val (.int j1), .val .null, .unset] [])
  refine own_by (fun t_ k_ => XS.iloadN X1.here hx rfl (hb hby d22_7) rfl k_) ?_
  show own_Go p e below _ T1 (mkF m 8 #[.val (.ref a1), .val (.int i1), .val (.int j1), .val .null, .unset] [(.int i1)])
  refine own_by (fun t_ k_ => XS.istore X1.here hx rfl (hb hby d22_8) rfl (l' := #[.val (.ref a1), .val (.int i1), .val (.int j1), .val .null, .val (.int i1)]) rfl k_) ?_
  exact lp (j0 - i0) _ _ _ _ i0 G X1 e1 N1 Z0 (Keep.refl h0 [a1]) (by omega) (Nat.le_refl _) hi0 V_a1 rfl (fun _ _ => rfl)
theorem ef_21 (m : MethodId) (a1 : Addr) : entryFrame m #[(.ref a1)] 2 = mkF m 0 #[.val (.ref a1), .unset] [] := by first | (simp [entryFrame, mkF, argsToLocals, Value.category]; done) | rfl
set_option maxRecDepth 65536 in
set_option maxHeartbeats 40000000 in
theorem rm21 (l : Launch) (Z : State) (a0 : Array Value) (hw : ∀ d ∈ tables_1, d.before a0 Z = true) (ws : List Jvm.Cond) (a1 : Addr) (aH : Addr) (aF : Addr) (bk : Addr) (bh : Addr) (bg : Addr) (ag : Addr) (A : List Addr) (O : List Addr) (D : List Addr) (Un : List Addr) (s' : Nat) (f : Nat) (h0 : Heap) (n0 : Nat) (Z0 : n0 ≤ h0.size) (HW : own_W Z h0 n0 aH aF a1 bk bh bg ag A O D Un s' f) :
    MetFree l (⟨"com/example/hedgewalk/hedgewalk/eval/GoalQueue", "dropSettled", "()V"⟩ : MethodName) (head1 (Jvm.Cond.code (⟨"com/example/hedgewalk/hedgewalk/eval/GoalQueue", "dropSettled", "()V"⟩ : MethodName) prog_34_method_6_code 2 none :: ws) ({ frames := 2, cells := 0, slots := 0, locals := 40 } : Room)) (fun a U => a = #[(.ref a1)] ∧ Z.Warmed39 U.vm ∧ U.heap = h0) (fun _ _ _ _ _ => True) (fun _ U o U' => ∃ v L, o = .returned v ∧ Q21 Z aH aF a1 bk bh bg ag A O D Un n0 v U'.heap L ∧ FrameEnd U o U' L ({ frames := 2, cells := 0, slots := 0, locals := 40 } : Room).cells ({ frames := 2, cells := 0, slots := 0, locals := 40 } : Room).slots) := by
  refine MetFree.of_bodySF (plainFor_of_name pn_8) hisR ?_
  intro p e s m args below meth c s₁ Bd hml0 hP hK
  obtain ⟨rfl, hZ, hh⟩ := hP
  have hx := Bd.exec
  have hby := Bd.bytes
  have hml : c.maxLocals = 2 := hml0
  have hown : s.vm.findClass "com/example/hedgewalk/hedgewalk/eval/GoalQueue" = some m.cls := findClass_of_methodNamed Bd.named
  have hnm := (name_of_methodNamed Bd.named Bd.method).1
  have hlk : meth.locks = false := BodyLoose.notSynchronized Bd
  have X0 : Stand p l e ({ frames := 2, cells := 0, slots := 0, locals := 40 } : Room) s m #[(.ref a1)] below meth c s₁ [] 0 0 := Stand.of_body Bd
  have e0 : s₁.heap = h0 := by rw [← hh, Bd.state]; rfl
  have N0 := Fr.nil n0
  refine own_start (Q := Q21 Z aH aF a1 bk bh bg ag A O D Un n0) (ef_21 m a1) ?_
  obtain ⟨K, H, G, ⟨E_a1, F_keys, F_holders, F_goals, F_size, F_first, V_bk, V_bh, V_bg, O_bg, g_a1, g_bk, g_bh, g_bg⟩, HP, hfs, hK, hH, HD, S_H, S_F, E_ag, hDA, hDU⟩ := HW
  have h3 := HP.1
  have h3' := HP.2.1
  have hln := HP.2.2.2.1
  have hl4 := HP.2.2.1
  have ne1 : a1 ≠ bk := own_exa_arr E_a1 (own_w hw 51 rfl) V_bk
  have ne2 : a1 ≠ bh := own_exa_arr E_a1 (own_w hw 51 rfl) V_bh
  have ne3 : a1 ≠ bg := own_exa_arr E_a1 (own_w hw 51 rfl) V_bg
  have ne4 : a1 ≠ ag := ne_exa E_a1 E_ag (by decide)
  have ne5 : bk ≠ bh := own_Arr.ne V_bk V_bh (by decide)
  have ne6 : bk ≠ bg := own_Arr.ne V_bk V_bg (by decide)
  have ne7 : bk ≠ ag := Ne.symm (own_exa_arr E_ag (own_w hw 4 rfl) V_bk)
  have ne8 : bh ≠ bg := own_Arr.ne V_bh V_bg (by decide)
  have ne9 : bh ≠ ag := Ne.symm (own_exa_arr E_ag (own_w hw 4 rfl) V_bh)
  have ne10 : bg ≠ ag := Ne.symm (own_exa_arr E_ag (own_w hw 4 rfl) V_bg)
  show own_Go p e below _ s₁ (mkF m 0 #[.val (.ref a1), .unset] [])
  refine own_by (fun t_ k_ => XS.aloadN X0.here hx rfl (hb hby d21_0) rfl rfl k_) ?_
  show own_Go p e below _ s₁ (mkF m 1 #[.val (.ref a1), .unset] [(.ref a1)])
  refine own_getF X0 hx hZ hown (own_w hw 74 rfl) Via.refl e0 F_size (hb hby d21_1) ?_
  intro T11 X11 e11
  show own_Go p e below _ T11 (mkF m 4 #[.val (.ref a1), .unset] [(.int (Int32.ofNat s'))])
  refine own_by (fun t_ k_ => XS.aloadN X11.here hx rfl (hb hby d21_4) rfl rfl k_) ?_
  show own_Go p e below _ T11 (mkF m 5 #[.val (.ref a1), .unset] [(.ref a1), (.int (Int32.ofNat s'))])
  refine own_getF X11 hx hZ hown (own_w hw 72 rfl) Via.refl e11 F_first (hb hby d21_5) ?_
  intro T12 X12 e12
  show own_Go p e below _ T12 (mkF m 8 #[.val (.ref a1), .unset] [(.int (Int32.ofNat f)), (.int (Int32.ofNat s'))])
  refine own_by (fun t_ k_ => XS.isub X12.here hx rfl (hb hby d21_8) rfl k_) ?_
  show own_Go p e below _ T12 (mkF m 9 #[.val (.ref a1), .unset] [(.int ((Int32.ofNat s') - (Int32.ofNat f)))])
  refine own_by (fun t_ k_ => XS.istoreN X12.here hx rfl (hb hby d21_9) rfl (l' := #[.val (.ref a1), .val (.int ((Int32.ofNat s') - (Int32.ofNat f)))]) rfl k_) ?_
  show own_Go p e below _ T12 (mkF m 10 #[.val (.ref a1), .val (.int ((Int32.ofNat s') - (Int32.ofNat f)))] [])
  rw [own_sub hfs (by omega)]
  show own_Go p e below _ T12 (mkF m 10 #[.val (.ref a1), .val (.int (Int32.ofNat (s' - f)))] [])
  refine own_by (fun t_ k_ => XS.aloadN X12.here hx rfl (hb hby d21_10) rfl rfl k_) ?_
  show own_Go p e below _ T12 (mkF m 11 #[.val (.ref a1), .val (.int (Int32.ofNat (s' - f)))] [(.ref a1)])
  refine own_getF X12 hx hZ hown (own_w hw 58 rfl) Via.refl e12 F_keys (hb hby d21_11) ?_
  intro T13 X13 e13
  show own_Go p e below _ T13 (mkF m 14 #[.val (.ref a1), .val (.int (Int32.ofNat (s' - f)))] [(.ref bk)])
  refine own_by (fun t_ k_ => XS.aloadN X13.here hx rfl (hb hby d21_14) rfl rfl k_) ?_
  show own_Go p e below _ T13 (mkF m 15 #[.val (.ref a1), .val (.int (Int32.ofNat (s' - f)))] [(.ref a1), (.ref bk)])
  refine own_getF X13 hx hZ hown (own_w hw 72 rfl) Via.refl e13 F_first (hb hby d21_15) ?_
  intro T14 X14 e14
  show own_Go p e below _ T14 (mkF m 18 #[.val (.ref a1), .val (.int (Int32.ofNat (s' - f)))] [(.int (Int32.ofNat f)), (.ref bk)])
  refine own_by (fun t_ k_ => XS.aloadN X14.here hx rfl (hb hby d21_18) rfl rfl k_) ?_
  show own_Go p e below _ T14 (mkF m 19 #[.val (.ref a1), .val (.int (Int32.ofNat (s' - f)))] [(.ref a1), (.int (Int32.ofNat f)), (.ref bk)])
  refine own_getF X14 hx hZ hown (own_w hw 58 rfl) Via.refl e14 F_keys (hb hby d21_19) ?_
  intro T15 X15 e15
  show own_Go p e below _ T15 (mkF m 22 #[.val (.ref a1), .val (.int (Int32.ofNat (s' - f)))] [(.ref bk), (.int (Int32.ofNat f)), (.ref bk)])
  refine own_by (fun t_ k_ => XS.iconst X15.here hx rfl (hb hby d21_22) k_) ?_
  show own_Go p e below _ T15 (mkF m 23 #[.val (.ref a1), .val (.int (Int32.ofNat (s' - f)))] [(.int (0 : Int32)), (.ref bk), (.int (Int32.ofNat f)), (.ref bk)])
  refine own_by (fun t_ k_ => XS.iloadN X15.here hx rfl (hb hby d21_23) rfl k_) ?_
  show own_Go p e below _ T15 (mkF m 24 #[.val (.ref a1), .val (.int (Int32.ofNat (s' - f)))] [(.int (Int32.ofNat (s' - f))), (.int (0 : Int32)), (.ref bk), (.int (Int32.ofNat f)), (.ref bk)])
  refine own_cpA X15 hx hZ hown (own_w hw 141 rfl) (own_w hw 144 rfl) (own_w hw 142 rfl) (own_w hw 143 rfl) e15 V_bk V_bk rfl f 0 (s' - f) (own_ofi (by omega)) (by decide) (own_ofi (by omega)) (by rw [List.length_map]; omega) (by rw [List.length_map]; omega) N0 g_bk (by rw [hml]; rfl) (hb hby d21_24) (by decide) (W := 0) (Nat.le_of_eq rfl) (by decide) ?_
  intro T16 h16 L16 X16 e16 N16 K16q A16
  have sz16 : n0 ≤ h16.size := Nat.le_trans Z0 K16q.1
  have V16_0 : own_Arr Z h16 bk .long ((K.take 0 ++ (K.drop f).take (s' - f) ++ K.drop (0 + (s' - f))).map Value.long) := own_Arr.cast A16 (own_cpm _)
  show own_Go p e below _ T16 (mkF m 27 #[.val (.ref a1), .val (.int (Int32.ofNat (s' - f)))] [])
  refine own_by (fun t_ k_ => XS.aloadN X16.here hx rfl (hb hby d21_27) rfl rfl k_) ?_
  show own_Go p e below _ T16 (mkF m 28 #[.val (.ref a1), .val (.int (Int32.ofNat (s' - f)))] [(.ref a1)])
  have F_holders_18 : Fld Z h16 a1 "com/example/hedgewalk/hedgewalk/eval/GoalQueue" "holders" "[I" (.ref bh) := (Fld.keep F_holders K16q (ninS ne1 nin0))
  refine own_getF X16 hx hZ hown (own_w hw 61 rfl) Via.refl e16 F_holders_18 (hb hby d21_28) ?_
  intro T17 X17 e17
  show own_Go p e below _ T17 (mkF m 31 #[.val (.ref a1), .val (.int (Int32.ofNat (s' - f)))] [(.ref bh)])
  refine own_by (fun t_ k_ => XS.aloadN X17.here hx rfl (hb hby d21_31) rfl rfl k_) ?_
  show own_Go p e below _ T17 (mkF m 32 #[.val (.ref a1), .val (.int (Int32.ofNat (s' - f)))] [(.ref a1), (.ref bh)])
  have F_first_20 : Fld Z h16 a1 "com/example/hedgewalk/hedgewalk/eval/GoalQueue" "firstOpen" "I" (.int (Int32.ofNat f)) := (Fld.keep F_first K16q (ninS ne1 nin0))
  refine own_getF X17 hx hZ hown (own_w hw 72 rfl) Via.refl e17 F_first_20 (hb hby d21_32) ?_
  intro T19 X19 e19
  show own_Go p e below _ T19 (mkF m 35 #[.val (.ref a1), .val (.int (Int32.ofNat (s' - f)))] [(.int (Int32.ofNat f)), (.ref bh)])
  refine own_by (fun t_ k_ => XS.aloadN X19.here hx rfl (hb hby d21_35) rfl rfl k_) ?_
  show own_Go p e below _ T19 (mkF m 36 #[.val (.ref a1), .val (.int (Int32.ofNat (s' - f)))] [(.ref a1), (.int (Int32.ofNat f)), (.ref bh)])
  refine own_getF X19 hx hZ hown (own_w hw 61 rfl) Via.refl e19 F_holders_18 (hb hby d21_36) ?_
  intro T21 X21 e21
  show own_Go p e below _ T21 (mkF m 39 #[.val (.ref a1), .val (.int (Int32.ofNat (s' - f)))] [(.ref bh), (.int (Int32.ofNat f)), (.ref bh)])
  refine own_by (fun t_ k_ => XS.iconst X21.here hx rfl (hb hby d21_39) k_) ?_
  show own_Go p e below _ T21 (mkF m 40 #[.val (.ref a1), .val (.int (Int32.ofNat (s' - f)))] [(.int (0 : Int32)), (.ref bh), (.int (Int32.ofNat f)), (.ref bh)])
  refine own_by (fun t_ k_ => XS.iloadN X21.here hx rfl (hb hby d21_40) rfl k_) ?_
  show own_Go p e below _ T21 (mkF m 41 #[.val (.ref a1), .val (.int (Int32.ofNat (s' - f)))] [(.int (Int32.ofNat (s' - f))), (.int (0 : Int32)), (.ref bh), (.int (Int32.ofNat f)), (.ref bh)])
  have V_bh_23 : own_Arr Z h16 bh .int (H.map Value.int) := (own_Arr.keep V_bh K16q (ninS (Ne.symm ne5) nin0))
  refine own_cpA X21 hx hZ hown (own_w hw 141 rfl) (own_w hw 144 rfl) (own_w hw 142 rfl) (own_w hw 143 rfl) e21 V_bh_23 V_bh_23 rfl f 0 (s' - f) (own_ofi (by omega)) (by decide) (own_ofi (by omega)) (by rw [List.length_map]; omega) (by rw [List.length_map]; omega) N16 g_bh (by rw [hml]; rfl) (hb hby d21_41) (by decide) (W := 0) (Nat.le_of_eq rfl) (by decide) ?_
  intro T22 h22 L22 X22 e22 N22 K22q A22
  have sz22 : n0 ≤ h22.size := Nat.le_trans sz16 K22q.1
  have V22_0 : own_Arr Z h22 bh .int ((H.take 0 ++ (H.drop f).take (s' - f) ++ H.drop (0 + (s' - f))).map Value.int) := own_Arr.cast A22 (own_cpm _)
  show own_Go p e below _ T22 (mkF m 44 #[.val (.ref a1), .val (.int (Int32.ofNat (s' - f)))] [])
  refine own_by (fun t_ k_ => XS.aloadN X22.here hx rfl (hb hby d21_44) rfl rfl k_) ?_
  show own_Go p e below _ T22 (mkF m 45 #[.val (.ref a1), .val (.int (Int32.ofNat (s' - f)))] [(.ref a1)])
  have F_goals_25 : Fld Z h22 a1 "com/example/hedgewalk/hedgewalk/eval/GoalQueue" "goals" "[Lcom/example/hedgewalk/hedgewalk/eval/Verdict$Listener;" (.ref bg) := (Fld.keep (Fld.keep F_goals K16q (ninS ne1 nin0)) K22q (ninS ne2 nin0))
  refine own_getF X22 hx hZ hown (own_w hw 65 rfl) Via.refl e22 F_goals_25 (hb hby d21_45) ?_
  intro T24 X24 e24
  show own_Go p e below _ T24 (mkF m 48 #[.val (.ref a1), .val (.int (Int32.ofNat (s' - f)))] [(.ref bg)])
  refine own_by (fun t_ k_ => XS.aloadN X24.here hx rfl (hb hby d21_48) rfl rfl k_) ?_
  show own_Go p e below _ T24 (mkF m 49 #[.val (.ref a1), .val (.int (Int32.ofNat (s' - f)))] [(.ref a1), (.ref bg)])
  have F_first_27 : Fld Z h22 a1 "com/example/hedgewalk/hedgewalk/eval/GoalQueue" "firstOpen" "I" (.int (Int32.ofNat f)) := (Fld.keep F_first_20 K22q (ninS ne2 nin0))
  refine own_getF X24 hx hZ hown (own_w hw 72 rfl) Via.refl e24 F_first_27 (hb hby d21_49) ?_
  intro T26 X26 e26
  show own_Go p e below _ T26 (mkF m 52 #[.val (.ref a1), .val (.int (Int32.ofNat (s' - f)))] [(.int (Int32.ofNat f)), (.ref bg)])
  refine own_by (fun t_ k_ => XS.aloadN X26.here hx rfl (hb hby d21_52) rfl rfl k_) ?_
  show own_Go p e below _ T26 (mkF m 53 #[.val (.ref a1), .val (.int (Int32.ofNat (s' - f)))] [(.ref a1), (.int (Int32.ofNat f)), (.ref bg)])
  refine own_getF X26 hx hZ hown (own_w hw 65 rfl) Via.refl e26 F_goals_25 (hb hby d21_53) ?_
  intro T28 X28 e28
  show own_Go p e below _ T28 (mkF m 56 #[.val (.ref a1), .val (.int (Int32.ofNat (s' - f)))] [(.ref bg), (.int (Int32.ofNat f)), (.ref bg)])
  refine own_by (fun t_ k_ => XS.iconst X28.here hx rfl (hb hby d21_56) k_) ?_
  show own_Go p e below _ T28 (mkF m 57 #[.val (.ref a1), .val (.int (Int32.ofNat (s' - f)))] [(.int (0 : Int32)), (.ref bg), (.int (Int32.ofNat f)), (.ref bg)])
  refine own_by (fun t_ k_ => XS.iloadN X28.here hx rfl (hb hby d21_57) rfl k_) ?_
  show own_Go p e below _ T28 (mkF m 58 #[.val (.ref a1), .val (.int (Int32.ofNat (s' - f)))] [(.int (Int32.ofNat (s' - f))), (.int (0 : Int32)), (.ref bg), (.int (Int32.ofNat f)), (.ref bg)])
  have V_bg_30 : own_Arr Z h22 bg (.object "com/example/hedgewalk/hedgewalk/eval/Verdict$Listener") G := (own_Arr.keep (own_Arr.keep V_bg K16q (ninS (Ne.symm ne6) nin0)) K22q (ninS (Ne.symm ne8) nin0))
  have O_bg_31 : own_Ovr Z h22 bg "com/example/hedgewalk/hedgewalk/eval/Verdict$Listener" := (own_Ovr.keep (own_Ovr.keep O_bg K16q) K22q)
  have HD_32 : own_D Z h22 n0 aH aF (O ++ Un) A := (own_D.keepA (own_D.keepA HD K16q V_bk (own_w hw 34 rfl)) K22q V_bh_23 (own_w hw 34 rfl))
  have hSt : ∀ v ∈ (G.drop f).take (s' - f), Sto Z h22 bg v := fun v hv => by
    obtain ⟨x, rfl, hx⟩ := HP.mem hv
    exact own_Ovr.sto O_bg_31 (Ins.of_exa (HD_32 x (hDA x hx)).1.1 (own_w hw 106 rfl))
  refine own_cpR X28 hx hZ hown (own_w hw 141 rfl) (own_w hw 144 rfl) (own_w hw 142 rfl) (own_w hw 143 rfl) e28 V_bg_30 V_bg_30 rfl f 0 (s' - f) (own_ofi (by omega)) (by decide) (own_ofi (by omega)) (by omega) (by omega) hSt N22 g_bg (by rw [hml]; rfl) (hb hby d21_58) (by decide) (W := 0) (Nat.le_of_eq rfl) (by decide) ?_
  intro T29 h29 L29 X29 e29 N29 K29q A29
  have sz29 : n0 ≤ h29.size := Nat.le_trans sz22 K29q.1
  have V29_0 : own_Arr Z h29 bg (.object "com/example/hedgewalk/hedgewalk/eval/Verdict$Listener") (G.take 0 ++ (G.drop f).take (s' - f) ++ G.drop (0 + (s' - f))) := A29
  show own_Go p e below _ T29 (mkF m 61 #[.val (.ref a1), .val (.int (Int32.ofNat (s' - f)))] [])
  refine own_by (fun t_ k_ => XS.aloadN X29.here hx rfl (hb hby d21_61) rfl rfl k_) ?_
  show own_Go p e below _ T29 (mkF m 62 #[.val (.ref a1), .val (.int (Int32.ofNat (s' - f)))] [(.ref a1)])
  have F_goals_34 : Fld Z h29 a1 "com/example/hedgewalk/hedgewalk/eval/GoalQueue" "goals" "[Lcom/example/hedgewalk/hedgewalk/eval/Verdict$Listener;" (.ref bg) := (Fld.keep F_goals_25 K29q (ninS ne3 nin0))
  refine own_getF X29 hx hZ hown (own_w hw 65 rfl) Via.refl e29 F_goals_34 (hb hby d21_62) ?_
  intro T33 X33 e33
  show own_Go p e below _ T33 (mkF m 65 #[.val (.ref a1), .val (.int (Int32.ofNat (s' - f)))] [(.ref bg)])
  refine own_by (fun t_ k_ => XS.iloadN X33.here hx rfl (hb hby d21_65) rfl k_) ?_
  show own_Go p e below _ T33 (mkF m 66 #[.val (.ref a1), .val (.int (Int32.ofNat (s' - f)))] [(.int (Int32.ofNat (s' - f))), (.ref bg)])
  refine own_by (fun t_ k_ => XS.aloadN X33.here hx rfl (hb hby d21_66) rfl rfl k_) ?_
  show own_Go p e below _ T33 (mkF m 67 #[.val (.ref a1), .val (.int (Int32.ofNat (s' - f)))] [(.ref a1), (.int (Int32.ofNat (s' - f))), (.ref bg)])
  have F_size_36 : Fld Z h29 a1 "com/example/hedgewalk/hedgewalk/eval/GoalQueue" "size" "I" (.int (Int32.ofNat s')) := (Fld.keep (Fld.keep (Fld.keep F_size K16q (ninS ne1 nin0)) K22q (ninS ne2 nin0)) K29q (ninS ne3 nin0))
  refine own_getF X33 hx hZ hown (own_w hw 74 rfl) Via.refl e33 F_size_36 (hb hby d21_67) ?_
  intro T35 X35 e35
  show own_Go p e below _ T35 (mkF m 70 #[.val (.ref a1), .val (.int (Int32.ofNat (s' - f)))] [(.int (Int32.ofNat s')), (.int (Int32.ofNat (s' - f))), (.ref bg)])
  refine own_by (fun t_ k_ => XS.aconstNull X35.here hx rfl (hb hby d21_70) k_) ?_
  show own_Go p e below _ T35 (mkF m 71 #[.val (.ref a1), .val (.int (Int32.ofNat (s' - f)))] [.null, (.int (Int32.ofNat s')), (.int (Int32.ofNat (s' - f))), (.ref bg)])
  refine own_callS (W := 0) X35 hx hZ (y := (⟨"java/util/Arrays", "fill", "([Ljava/lang/Object;IILjava/lang/Object;)V"⟩ : MethodName)) hown (own_w hw 145 rfl) (own_w hw 146 rfl) (own_w hw 147 rfl) (own_w hw 148 rfl) (by decide) (by rw [hml]; rfl) (argsL := [(.ref bg), (.int (Int32.ofNat (s' - f))), (.int (Int32.ofNat s')), .null]) pd_14 rfl (rm22 l Z a0 hw [] bg (Int32.ofNat (s' - f)) (Int32.ofNat s') (G.take 0 ++ (G.drop f).take (s' - f) ++ G.drop (0 + (s' - f))) (s' - f) s' h29 n0 sz29 V29_0 (own_ofi (by omega)) (own_ofi (by omega)) (by omega) (by rw [own_cpl (by omega)]; omega) g_bg) (by decide) (by decide) (Nat.le_of_eq rfl) (by decide) (by decide) (rest := []) e35 rfl (hb hby d21_71) ?_
  intro v37 T37 L37 X37 hQ37
  obtain ⟨G2, rfl, N37q, K37q, V37, hl2, HG2⟩ := hQ37
  have N37 := Fr.app N29 N37q
  have sz37 : n0 ≤ T37.heap.size := Nat.le_trans sz29 K37q.1
  show own_Go p e below _ T37 (mkF m 74 #[.val (.ref a1), .val (.int (Int32.ofNat (s' - f)))] [])
  refine own_by (fun t_ k_ => XS.aloadN X37.here hx rfl (hb hby d21_74) rfl rfl k_) ?_
  show own_Go p e below _ T37 (mkF m 75 #[.val (.ref a1), .val (.int (Int32.ofNat (s' - f)))] [(.ref a1)])
  refine own_by (fun t_ k_ => XS.iloadN X37.here hx rfl (hb hby d21_75) rfl k_) ?_
  show own_Go p e below _ T37 (mkF m 76 #[.val (.ref a1), .val (.int (Int32.ofNat (s' - f)))] [(.int (Int32.ofNat (s' - f))), (.ref a1)])
  have F_size_39 : Fld Z T37.heap a1 "com/example/hedgewalk/hedgewalk/eval/GoalQueue" "size" "I" (.int (Int32.ofNat s')) := (Fld.keep F_size_36 K37q (ninS ne3 nin0))
  have E_a1_40 : Exa Z T37.heap a1 "com/example/hedgewalk/hedgewalk/eval/GoalQueue" := (Exa.keep (Exa.keep (Exa.keep (Exa.keep E_a1 K16q) K22q) K29q) K37q)
  refine own_putF X37 hx hZ hown (own_w hw 74 rfl) Via.refl rfl F_size_39 E_a1_40 (Or.inl (own_w hw 75 rfl)) (own_w hw 51 rfl) (ty := .int) (by decide) rfl rfl (hb hby d21_76) ?_
  intro T38 h38 X38 e38 W38
  have F38 := Fld.same W38 F_size_39
  have N38 := Fr.snoc X38 N37 g_a1
  have sz38 : n0 ≤ h38.size := Nat.le_trans sz37 (Keep.of_wr W38).1
  show own_Go p e below _ T38 (mkF m 79 #[.val (.ref a1), .val (.int (Int32.ofNat (s' - f)))] [])
  refine own_by (fun t_ k_ => XS.aloadN X38.here hx rfl (hb hby d21_79) rfl rfl k_) ?_
  show own_Go p e below _ T38 (mkF m 80 #[.val (.ref a1), .val (.int (Int32.ofNat (s' - f)))] [(.ref a1)])
  refine own_by (fun t_ k_ => XS.iconst X38.here hx rfl (hb hby d21_80) k_) ?_
  show own_Go p e below _ T38 (mkF m 81 #[.val (.ref a1), .val (.int (Int32.ofNat (s' - f)))] [(.int (0 : Int32)), (.ref a1)])
  have F_first_42 : Fld Z h38 a1 "com/example/hedgewalk/hedgewalk/eval/GoalQueue" "firstOpen" "I" (.int (Int32.ofNat f)) := (Fld.other W38 (Fld.keep (Fld.keep F_first_27 K29q (ninS ne3 nin0)) K37q (ninS ne3 nin0)) (Or.inr (slot_ne (Or.inl (own_w hw 73 rfl)) (Or.inl (own_w hw 75 rfl)) (by decide) (t := .int) (t' := .int) (by decide) (by decide))))
  have E_a1_43 : Exa Z h38 a1 "com/example/hedgewalk/hedgewalk/eval/GoalQueue" := (Exa.wr W38 E_a1_40)
  refine own_putF X38 hx hZ hown (own_w hw 72 rfl) Via.refl e38 F_first_42 E_a1_43 (Or.inl (own_w hw 73 rfl)) (own_w hw 51 rfl) (ty := .int) (by decide) rfl rfl (hb hby d21_81) ?_
  intro T41 h41 X41 e41 W41
  have F41 := Fld.same W41 F_first_42
  have N41 := Fr.snoc X41 N38 g_a1
  have sz41 : n0 ≤ h41.size := Nat.le_trans sz38 (Keep.of_wr W41).1
  show own_Go p e below _ T41 (mkF m 84 #[.val (.ref a1), .val (.int (Int32.ofNat (s' - f)))] [])
  refine own_retV X41 hx hlk Bd.returns (hb hby d21_84) e41 (by decide) (by decide) ?_
  have E_a1_44 : Exa Z h41 a1 "com/example/hedgewalk/hedgewalk/eval/GoalQueue" := (Exa.wr W41 E_a1_43)
  have F_keys_45 : Fld Z h41 a1 "com/example/hedgewalk/hedgewalk/eval/GoalQueue" "keys" "[J" (.ref bk) := (Fld.other W41 (Fld.other W38 (Fld.keep (Fld.keep (Fld.keep (Fld.keep F_keys K16q (ninS ne1 nin0)) K22q (ninS ne2 nin0)) K29q (ninS ne3 nin0)) K37q (ninS ne3 nin0)) (Or.inr (slot_ne (Or.inl (own_w hw 59 rfl)) (Or.inl (own_w hw 75 rfl)) (by decide) (t := (.array .long)) (t' := .int) (by decide) (by decide)))) (Or.inr (slot_ne (Or.inl (own_w hw 59 rfl)) (Or.inl (own_w hw 73 rfl)) (by decide) (t := (.array .long)) (t' := .int) (by decide) (by decide))))
  have F_holders_46 : Fld Z h41 a1 "com/example/hedgewalk/hedgewalk/eval/GoalQueue" "holders" "[I" (.ref bh) := (Fld.other W41 (Fld.other W38 (Fld.keep (Fld.keep (Fld.keep F_holders_18 K22q (ninS ne2 nin0)) K29q (ninS ne3 nin0)) K37q (ninS ne3 nin0)) (Or.inr (slot_ne (Or.inl (own_w hw 62 rfl)) (Or.inl (own_w hw 75 rfl)) (by decide) (t := (.array .int)) (t' := .int) (by decide) (by decide)))) (Or.inr (slot_ne (Or.inl (own_w hw 62 rfl)) (Or.inl (own_w hw 73 rfl)) (by decide) (t := (.array .int)) (t' := .int) (by decide) (by decide))))
  have F_goals_47 : Fld Z h41 a1 "com/example/hedgewalk/hedgewalk/eval/GoalQueue" "goals" "[Lcom/example/hedgewalk/hedgewalk/eval/Verdict$Listener;" (.ref bg) := (Fld.other W41 (Fld.other W38 (Fld.keep F_goals_34 K37q (ninS ne3 nin0)) (Or.inr (slot_ne (Or.inl (own_w hw 66 rfl)) (Or.inl (own_w hw 75 rfl)) (by decide) (t := (.array (.object "com/example/hedgewalk/hedgewalk/eval/Verdict$Listener"))) (t' := .int) (by decide) (by decide)))) (Or.inr (slot_ne (Or.inl (own_w hw 66 rfl)) (Or.inl (own_w hw 73 rfl)) (by decide) (t := (.array (.object "com/example/hedgewalk/hedgewalk/eval/Verdict$Listener"))) (t' := .int) (by decide) (by decide))))
  have F38_48 : Fld Z h41 a1 "com/example/hedgewalk/hedgewalk/eval/GoalQueue" "size" "I" (.int (Int32.ofNat (s' - f))) := (Fld.other W41 F38 (Or.inr (slot_ne (Or.inl (own_w hw 75 rfl)) (Or.inl (own_w hw 73 rfl)) (by decide) (t := .int) (t' := .int) (by decide) (by decide))))
  have V16_49 : own_Arr Z h41 bk .long ((K.take 0 ++ (K.drop f).take (s' - f) ++ K.drop (0 + (s' - f))).map Value.long) := (own_Arr.other (own_Arr.other (own_Arr.keep (own_Arr.keep (own_Arr.keep V16_0 K22q (ninS ne5 nin0)) K29q (ninS ne6 nin0)) K37q (ninS ne6 nin0)) W38 (Ne.symm ne1)) W41 (Ne.symm ne1))
  have V22_50 : own_Arr Z h41 bh .int ((H.take 0 ++ (H.drop f).take (s' - f) ++ H.drop (0 + (s' - f))).map Value.int) := (own_Arr.other (own_Arr.other (own_Arr.keep (own_Arr.keep V22_0 K29q (ninS ne8 nin0)) K37q (ninS ne8 nin0)) W38 (Ne.symm ne2)) W41 (Ne.symm ne2))
  have V37_51 : own_Arr Z h41 bg (.object "com/example/hedgewalk/hedgewalk/eval/Verdict$Listener") G2 := (own_Arr.other (own_Arr.other V37 W38 (Ne.symm ne3)) W41 (Ne.symm ne3))
  have O_bg_52 : own_Ovr Z h41 bg "com/example/hedgewalk/hedgewalk/eval/Verdict$Listener" := (own_Ovr.wr (own_Ovr.wr (own_Ovr.keep (own_Ovr.keep O_bg_31 K29q) K37q) W38) W41)
  have HD_53 : own_D Z h41 n0 aH aF (O ++ Un) A := (own_D.wrE (own_D.wrE (own_D.keepA (own_D.keepA HD_32 K29q V_bg_30 (own_w hw 34 rfl)) K37q V29_0 (own_w hw 34 rfl)) W38 E_a1_40) W41 E_a1_43)
  have S_H_54 : Sta Z h41 "com/example/hedgewalk/hedgewalk/eval/Verdict" "HOLDS" "Ljava/lang/Object;" (.ref aH) := (Sta.wr W41 (Sta.wr W38 (own_Sta_keep (own_Sta_keep (own_Sta_keep (own_Sta_keep S_H K16q (nsS (own_Arr.nostat V_bk) ns0)) K22q (nsS (own_Arr.nostat V_bh_23) ns0)) K29q (nsS (own_Arr.nostat V_bg_30) ns0)) K37q (nsS (own_Arr.nostat V29_0) ns0))))
  have S_F_55 : Sta Z h41 "com/example/hedgewalk/hedgewalk/eval/Verdict" "FAILS" "Ljava/lang/Object;" (.ref aF) := (Sta.wr W41 (Sta.wr W38 (own_Sta_keep (own_Sta_keep (own_Sta_keep (own_Sta_keep S_F K16q (nsS (own_Arr.nostat V_bk) ns0)) K22q (nsS (own_Arr.nostat V_bh_23) ns0)) K29q (nsS (own_Arr.nostat V_bg_30) ns0)) K37q (nsS (own_Arr.nostat V29_0) ns0))))
  have E_ag_56 : Exa Z h41 ag "com/example/hedgewalk/hedgewalk/eval/Agenda" := (Exa.wr W41 (Exa.wr W38 (Exa.keep (Exa.keep (Exa.keep (Exa.keep E_ag K16q) K22q) K29q) K37q)))
  exact ⟨s' - f, 0, rfl, N41, _, _, G2, ⟨E_a1_44, F_keys_45, F_holders_46, F_goals_47, F38_48, F41, V16_49, V22_50, V37_51, O_bg_52, g_a1, g_bk, g_bh, g_bg⟩, HP.drop (by rw [hl2, own_cpl (by omega)]; exact hl4) (fun i hi => by rw [HG2 i hi, own_cpi (by omega) hi]), Nat.zero_le _, by rw [own_cpl (by omega)]; exact hK, by rw [own_cpl (by omega)]; exact hH, HD_53, S_H_54, S_F_55, E_ag_56, hDA, hDU⟩
theorem ef_12 (m : MethodId) (a1 : Addr) (lim : Int64) (a2 : Addr) : entryFrame m #[(.ref a1), (.long lim), (.ref a2)] 4 = mkF m 0 #[.val (.ref a1), .val (.long lim), .second, .val (.ref a2)] [] := by first | (simp [entryFrame, mkF, argsToLocals, Value.category]; done) | rfl
set_option maxRecDepth 65536 in
set_option maxHeartbeats 40000000 in
theorem rm12 (l : Launch) (Z : State) (a0 : Array Value) (hw : ∀ d ∈ tables_1, d.before a0 Z = true) (ws : List Jvm.Cond) (a1 : Addr) (lim : Int64) (a2 : Addr) (aH : Addr) (aF : Addr) (bk : Addr) (bh : Addr) (bg : Addr) (A : List Addr) (O : List Addr) (D : List Addr) (Un : List Addr) (s' : Nat) (f : Nat) (h0 : Heap) (n0 : Nat) (Z0 : n0 ≤ h0.size) (HW : own_W Z h0 n0 aH aF a1 bk bh bg a2 A O D Un s' f) :
    MetFree l (⟨"com/example/hedgewalk/hedgewalk/eval/GoalQueue", "succeedBelow", "(JLcom/example/hedgewalk/hedgewalk/eval/Agenda;)V"⟩ : MethodName) (head1 (Jvm.Cond.code (⟨"com/example/hedgewalk/hedgewalk/eval/GoalQueue", "succeedBelow", "(JLcom/example/hedgewalk/hedgewalk/eval/Agenda;)V"⟩ : MethodName) prog_34_method_4_code 4 none :: ws) ({ frames := 4, cells := 0, slots := 0, locals := 70 } : Room)) (fun a U => a = #[(.ref a1), (.long lim), (.ref a2)] ∧ Z.Warmed39 U.vm ∧ U.heap = h0) (fun _ _ _ _ _ => True) (fun _ U o U' => ∃ v L, o = .returned v ∧ Q12 Z aH aF a1 bk bh bg a2 A D Un n0 v U'.heap L ∧ FrameEnd U o U' L ({ frames := 4, cells := 0, slots := 0, locals := 70 } : Room).cells ({ frames := 4, cells := 0, slots := 0, locals := 70 } : Room).slots) := by
  refine MetFree.of_bodySF (plainFor_of_name pn_8) hisR ?_
  intro p e s m args below meth c s₁ Bd hml0 hP hK
  obtain ⟨rfl, hZ, hh⟩ := hP
  have hx := Bd.exec
  have hby := Bd.bytes
  have hml : c.maxLocals = 4 := hml0
  have hown : s.vm.findClass "com/example/hedgewalk/hedgewalk/eval/GoalQueue" = some m.cls := findClass_of_methodNamed Bd.named
  have hnm := (name_of_methodNamed Bd.named Bd.method).1
  have hlk : meth.locks = false := BodyLoose.notSynchronized Bd
  have X0 : Stand p l e ({ frames := 4, cells := 0, slots := 0, locals := 70 } : Room) s m #[(.ref a1), (.long lim), (.ref a2)] below meth c s₁ [] 0 0 := Stand.of_body Bd
  have e0 : s₁.heap = h0 := by rw [← hh, Bd.state]; rfl
  have N0 := Fr.nil n0
  refine own_start (Q := Q12 Z aH aF a1 bk bh bg a2 A D Un n0) (ef_12 m a1 lim a2) ?_
  obtain ⟨K, H, G, HG, HP, hfs, hK, hH, HD, S_H, S_F, E_ag, hDA, hDU⟩ := HW
  have lp : ∀ (O : List Addr) (T : State) (h1 : Heap) (L : List Loc) (f : Nat), Stand p l e ({ frames := 4, cells := 0, slots := 0, locals := 70 } : Room) s m #[(.ref a1), (.long lim), (.ref a2)] below meth c T L 0 0 → T.heap = h1 → Fr n0 L → n0 ≤ h1.size → own_G Z h1 n0 a1 bk bh bg K H G s' f → own_P O D G s' f → f ≤ s' → own_D Z h1 n0 aH aF (O ++ Un) A → Sta Z h1 "com/example/hedgewalk/hedgewalk/eval/Verdict" "HOLDS" "Ljava/lang/Object;" (.ref aH) → Sta Z h1 "com/example/hedgewalk/hedgewalk/eval/Verdict" "FAILS" "Ljava/lang/Object;" (.ref aF) → Exa Z h1 a2 "com/example/hedgewalk/hedgewalk/eval/Agenda" → own_Go p e below (own_Fin s (Q12 Z aH aF a1 bk bh bg a2 A D Un n0) ({ frames := 4, cells := 0, slots := 0, locals := 70 } : Room).cells ({ frames := 4, cells := 0, slots := 0, locals := 70 } : Room).slots) T (mkF m 0 #[.val (.ref a1), .val (.long lim), .second, .val (.ref a2)] []) := by
    intro O
    induction O with
    | nil =>
      intro T h1 L f X eT N sz1 HG HP hfs HD S_H S_F E_ag
      obtain ⟨E_a1, F_keys, F_holders, F_goals, F_size, F_first, V_bk, V_bh, V_bg, O_bg, g_a1, g_bk, g_bh, g_bg⟩ := HG
      have h3 := HP.1
      have h3' := HP.2.1
      have hl4 := HP.2.2.1
      have hln := HP.2.2.2.1
      rw [List.length_nil] at hln
      have ne1 : a1 ≠ bk := own_exa_arr E_a1 (own_w hw 51 rfl) V_bk
      have ne2 : a1 ≠ bh := own_exa_arr E_a1 (own_w hw 51 rfl) V_bh
      have ne3 : a1 ≠ bg := own_exa_arr E_a1 (own_w hw 51 rfl) V_bg
      have ne4 : a1 ≠ a2 := ne_exa E_a1 E_ag (by decide)
      have ne5 : bk ≠ bh := own_Arr.ne V_bk V_bh (by decide)
      have ne6 : bk ≠ bg := own_Arr.ne V_bk V_bg (by decide)
      have ne7 : bk ≠ a2 := Ne.symm (own_exa_arr E_ag (own_w hw 4 rfl) V_bk)
      have ne8 : bh ≠ bg := own_Arr.ne V_bh V_bg (by decide)
      have ne9 : bh ≠ a2 := Ne.symm (own_exa_arr E_ag (own_w hw 4 rfl) V_bh)
      have ne10 : bg ≠ a2 := Ne.symm (own_exa_arr E_ag (own_w hw 4 rfl) V_bg)
      show own_Go p e below _ T (mkF m 0 #[.val (.ref a1), .val (.long lim), .second, .val (.ref a2)] [])
      refine own_by (fun t_ k_ => XS.aloadN X.here hx rfl (hb hby d12_0) rfl rfl k_) ?_
      show own_Go p e below _ T (mkF m 1 #[.val (.ref a1), .val (.long lim), .second, .val (.ref a2)] [(.ref a1)])
      refine own_getF X hx hZ hown (own_w hw 72 rfl) Via.refl eT F_first (hb hby d12_1) ?_
      intro T11 X11 e11
      show own_Go p e below _ T11 (mkF m 4 #[.val (.ref a1), .val (.long lim), .second, .val (.ref a2)] [(.int (Int32.ofNat f))])
      refine own_by (fun t_ k_ => XS.aloadN X11.here hx rfl (hb hby d12_4) rfl rfl k_) ?_
      show own_Go p e below _ T11 (mkF m 5 #[.val (.ref a1), .val (.long lim), .second, .val (.ref a2)] [(.ref a1), (.int (Int32.ofNat f))])
      refine own_getF X11 hx hZ hown (own_w hw 74 rfl) Via.refl e11 F_size (hb hby d12_5) ?_
      intro T12 X12 e12
      show own_Go p e below _ T12 (mkF m 8 #[.val (.ref a1), .val (.long lim), .second, .val (.ref a2)] [(.int (Int32.ofNat s')), (.int (Int32.ofNat f))])
      refine own_icmp X12 hx 54 (hb hby d12_8) (by decide) (by decide) (fun _ => ?_) (fun hc => absurd (show ¬ (Int32.ofNat f) < (Int32.ofNat s') from fun q => absurd ((own_ltN (by omega) (by omega)).mp q) (by omega)) (by first | exact hc | exact not_not_intro hc))
      show own_Go p e below _ T12 (mkF m 54 #[.val (.ref a1), .val (.long lim), .second, .val (.ref a2)] [])
      refine own_by (fun t_ k_ => XS.aloadN X12.here hx rfl (hb hby d12_54) rfl rfl k_) ?_
      show own_Go p e below _ T12 (mkF m 55 #[.val (.ref a1), .val (.long lim), .second, .val (.ref a2)] [(.ref a1)])
      refine own_getF X12 hx hZ hown (own_w hw 72 rfl) Via.refl e12 F_first (hb hby d12_55) ?_
      intro T13 X13 e13
      show own_Go p e below _ T13 (mkF m 58 #[.val (.ref a1), .val (.long lim), .second, .val (.ref a2)] [(.int (Int32.ofNat f))])
      refine own_by (fun t_ k_ => XS.aloadN X13.here hx rfl (hb hby d12_58) rfl rfl k_) ?_
      show own_Go p e below _ T13 (mkF m 59 #[.val (.ref a1), .val (.long lim), .second, .val (.ref a2)] [(.ref a1), (.int (Int32.ofNat f))])
      refine own_getF X13 hx hZ hown (own_w hw 74 rfl) Via.refl e13 F_size (hb hby d12_59) ?_
      intro T14 X14 e14
      show own_Go p e below _ T14 (mkF m 62 #[.val (.ref a1), .val (.long lim), .second, .val (.ref a2)] [(.int (Int32.ofNat s')), (.int (Int32.ofNat f))])
      refine own_by (fun t_ k_ => XS.iconst X14.here hx rfl (hb hby d12_62) k_) ?_
      show own_Go p e below _ T14 (mkF m 63 #[.val (.ref a1), .val (.long lim), .second, .val (.ref a2)] [(.int (2 : Int32)), (.int (Int32.ofNat s')), (.int (Int32.ofNat f))])
      refine own_by (fun t_ k_ => XS.idiv X14.here hx rfl (hb hby d12_63) rfl (by decide) k_) ?_
      show own_Go p e below _ T14 (mkF m 64 #[.val (.ref a1), .val (.long lim), .second, .val (.ref a2)] [(.int ((Int32.ofNat s') / (2 : Int32))), (.int (Int32.ofNat f))])
      refine own_icmp X14 hx 71 (hb hby d12_64) (by decide) (by decide) (fun (hc64 : ¬ ((Int32.ofNat s') / (2 : Int32)) < (Int32.ofNat f)) => ?_) (fun (hc64 : ((Int32.ofNat s') / (2 : Int32)) < (Int32.ofNat f)) => ?_)
      · show own_Go p e below _ T14 (mkF m 71 #[.val (.ref a1), .val (.long lim), .second, .val (.ref a2)] [])
        refine own_retV X14 hx hlk Bd.returns (hb hby d12_71) e14 (by decide) (by decide) ?_
        exact ⟨[], s', f, rfl, N, K, H, G, ⟨E_a1, F_keys, F_holders, F_goals, F_size, F_first, V_bk, V_bh, V_bg, O_bg, g_a1, g_bk, g_bh, g_bg⟩, HP, hfs, hK, hH, HD, S_H, S_F, E_ag, hDA, hDU⟩
      · show own_Go p e below _ T14 (mkF m 67 #[.val (.ref a1), .val (.long lim), .second, .val (.ref a2)] [])
        refine own_by (fun t_ k_ => XS.aloadN X14.here hx rfl (hb hby d12_67) rfl rfl k_) ?_
        show own_Go p e below _ T14 (mkF m 68 #[.val (.ref a1), .val (.long lim), .second, .val (.ref a2)] [(.ref a1)])
        have HV15 : own_W Z h1 n0 aH aF a1 bk bh bg a2 A [] D Un s' f := ⟨K, H, G, ⟨E_a1, F_keys, F_holders, F_goals, F_size, F_first, V_bk, V_bh, V_bg, O_bg, g_a1, g_bk, g_bh, g_bg⟩, HP, hfs, hK, hH, HD, S_H, S_F, E_ag, hDA, hDU⟩
        refine own_callP (W := 0) X14 hx hZ (y := (⟨"com/example/hedgewalk/hedgewalk/eval/GoalQueue", "dropSettled", "()V"⟩ : MethodName)) hown (own_w hw 137 rfl) (own_w hw 138 rfl) (own_w hw 51 rfl) (own_w hw 139 rfl) (own_w hw 52 rfl) (own_w hw 140 rfl) (by decide) (by rw [hml]; rfl) (argsL := []) pd_0 rfl (a := a1) e14 E_a1 (rm21 l Z a0 hw [] a1 aH aF bk bh bg a2 A [] D Un s' f h1 n0 sz1 HV15) (by decide) (by decide) (Nat.le_of_eq rfl) (by decide) (by decide) (rest := []) rfl (hb hby d12_68) ?_
        intro v16 T16 L16 X16 hQ16
        obtain ⟨s16, f16, rfl, N16q, HW16⟩ := hQ16
        have N16 := Fr.app N N16q
        show own_Go p e below _ T16 (mkF m 71 #[.val (.ref a1), .val (.long lim), .second, .val (.ref a2)] [])
        refine own_retV X16 hx hlk Bd.returns (hb hby d12_71) rfl (by decide) (by decide) ?_
        exact ⟨[], _, _, rfl, N16, HW16⟩
    | cons x O ih =>
      intro T h1 L f X eT N sz1 HG HP hfs HD S_H S_F E_ag
      obtain ⟨E_a1, F_keys, F_holders, F_goals, F_size, F_first, V_bk, V_bh, V_bg, O_bg, g_a1, g_bk, g_bh, g_bg⟩ := HG
      have h3 := HP.1
      have h3' := HP.2.1
      have hl4 := HP.2.2.1
      have hln := HP.2.2.2.1
      obtain ⟨hlt, hg, hxO, hxD, HP2⟩ := HP.hd
      have ne1 : a1 ≠ bk := own_exa_arr E_a1 (own_w hw 51 rfl) V_bk
      have ne2 : a1 ≠ bh := own_exa_arr E_a1 (own_w hw 51 rfl) V_bh
      have ne3 : a1 ≠ bg := own_exa_arr E_a1 (own_w hw 51 rfl) V_bg
      have ne4 : a1 ≠ a2 := ne_exa E_a1 E_ag (by decide)
      have ne5 : bk ≠ bh := own_Arr.ne V_bk V_bh (by decide)
      have ne6 : bk ≠ bg := own_Arr.ne V_bk V_bg (by decide)
      have ne7 : bk ≠ a2 := Ne.symm (own_exa_arr E_ag (own_w hw 4 rfl) V_bk)
      have ne8 : bh ≠ bg := own_Arr.ne V_bh V_bg (by decide)
      have ne9 : bh ≠ a2 := Ne.symm (own_exa_arr E_ag (own_w hw 4 rfl) V_bh)
      have ne10 : bg ≠ a2 := Ne.symm (own_exa_arr E_ag (own_w hw 4 rfl) V_bg)
      show own_Go p e below _ T (mkF m 0 #[.val (.ref a1), .val (.long lim), .second, .val (.ref a2)] [])
      refine own_by (fun t_ k_ => XS.aloadN X.here hx rfl (hb hby d12_0) rfl rfl k_) ?_
      show own_Go p e below _ T (mkF m 1 #[.val (.ref a1), .val (.long lim), .second, .val (.ref a2)] [(.ref a1)])
      refine own_getF X hx hZ hown (own_w hw 72 rfl) Via.refl eT F_first (hb hby d12_1) ?_
      intro T11 X11 e11
      show own_Go p e below _ T11 (mkF m 4 #[.val (.ref a1), .val (.long lim), .second, .val (.ref a2)] [(.int (Int32.ofNat f))])
      refine own_by (fun t_ k_ => XS.aloadN X11.here hx rfl (hb hby d12_4) rfl rfl k_) ?_
      show own_Go p e below _ T11 (mkF m 5 #[.val (.ref a1), .val (.long lim), .second, .val (.ref a2)] [(.ref a1), (.int (Int32.ofNat f))])
      refine own_getF X11 hx hZ hown (own_w hw 74 rfl) Via.refl e11 F_size (hb hby d12_5) ?_
      intro T12 X12 e12
      show own_Go p e below _ T12 (mkF m 8 #[.val (.ref a1), .val (.long lim), .second, .val (.ref a2)] [(.int (Int32.ofNat s')), (.int (Int32.ofNat f))])
      refine own_icmp X12 hx 54 (hb hby d12_8) (by decide) (by decide) (fun hc => absurd (show (Int32.ofNat f) < (Int32.ofNat s') from (own_ltN (by omega) (by omega)).mpr hlt) (by first | exact hc | exact not_not_intro hc)) (fun _ => ?_)
      show own_Go p e below _ T12 (mkF m 11 #[.val (.ref a1), .val (.long lim), .second, .val (.ref a2)] [])
      refine own_by (fun t_ k_ => XS.aloadN X12.here hx rfl (hb hby d12_11) rfl rfl k_) ?_
      show own_Go p e below _ T12 (mkF m 12 #[.val (.ref a1), .val (.long lim), .second, .val (.ref a2)] [(.ref a1)])
      refine own_getF X12 hx hZ hown (own_w hw 58 rfl) Via.refl e12 F_keys (hb hby d12_12) ?_
      intro T13 X13 e13
      show own_Go p e below _ T13 (mkF m 15 #[.val (.ref a1), .val (.long lim), .second, .val (.ref a2)] [(.ref bk)])
      refine own_by (fun t_ k_ => XS.aloadN X13.here hx rfl (hb hby d12_15) rfl rfl k_) ?_
      show own_Go p e below _ T13 (mkF m 16 #[.val (.ref a1), .val (.long lim), .second, .val (.ref a2)] [(.ref a1), (.ref bk)])
      refine own_getF X13 hx hZ hown (own_w hw 72 rfl) Via.refl e13 F_first (hb hby d12_16) ?_
      intro T14 X14 e14
      show own_Go p e below _ T14 (mkF m 19 #[.val (.ref a1), .val (.long lim), .second, .val (.ref a2)] [(.int (Int32.ofNat f)), (.ref bk)])
      refine own_laload X14 hx hZ e14 V_bk (v := (.long (K.getD f 0))) f (own_ofi (by omega)) (own_ctv (by omega)) (hb hby d12_19) ?_
      show own_Go p e below _ T14 (mkF m 20 #[.val (.ref a1), .val (.long lim), .second, .val (.ref a2)] [(.long (K.getD f 0))])
      refine own_by (fun t_ k_ => XT.lloadN X14.here hx rfl (hb hby d12_20) rfl k_) ?_
      show own_Go p e below _ T14 (mkF m 21 #[.val (.ref a1), .val (.long lim), .second, .val (.ref a2)] [(.long lim), (.long (K.getD f 0))])
      refine own_by (fun t_ k_ => XT.lcmp X14.here hx rfl (hb hby d12_21) rfl k_) ?_
      show own_Go p e below _ T14 (mkF m 22 #[.val (.ref a1), .val (.long lim), .second, .val (.ref a2)] [(.int (XT.cmpL (K.getD f 0) lim))])
      refine own_if X14 hx 54 (hb hby d12_22) (by decide) (by decide) (fun (hc22 : ¬ (XT.cmpL (K.getD f 0) lim) < (0 : Int32)) => ?_) (fun (hc22 : (XT.cmpL (K.getD f 0) lim) < (0 : Int32)) => ?_)
      · show own_Go p e below _ T14 (mkF m 54 #[.val (.ref a1), .val (.long lim), .second, .val (.ref a2)] [])
        refine own_by (fun t_ k_ => XS.aloadN X14.here hx rfl (hb hby d12_54) rfl rfl k_) ?_
        show own_Go p e below _ T14 (mkF m 55 #[.val (.ref a1), .val (.long lim), .second, .val (.ref a2)] [(.ref a1)])
        refine own_getF X14 hx hZ hown (own_w hw 72 rfl) Via.refl e14 F_first (hb hby d12_55) ?_
        intro T15 X15 e15
        show own_Go p e below _ T15 (mkF m 58 #[.val (.ref a1), .val (.long lim), .second, .val (.ref a2)] [(.int (Int32.ofNat f))])
        refine own_by (fun t_ k_ => XS.aloadN X15.here hx rfl (hb hby d12_58) rfl rfl k_) ?_
        show own_Go p e below _ T15 (mkF m 59 #[.val (.ref a1), .val (.long lim), .second, .val (.ref a2)] [(.ref a1), (.int (Int32.ofNat f))])
        refine own_getF X15 hx hZ hown (own_w hw 74 rfl) Via.refl e15 F_size (hb hby d12_59) ?_
        intro T16 X16 e16
        show own_Go p e below _ T16 (mkF m 62 #[.val (.ref a1), .val (.long lim), .second, .val (.ref a2)] [(.int (Int32.ofNat s')), (.int (Int32.ofNat f))])
        refine own_by (fun t_ k_ => XS.iconst X16.here hx rfl (hb hby d12_62) k_) ?_
        show own_Go p e below _ T16 (mkF m 63 #[.val (.ref a1), .val (.long lim), .second, .val (.ref a2)] [(.int (2 : Int32)), (.int (Int32.ofNat s')), (.int (Int32.ofNat f))])
        refine own_by (fun t_ k_ => XS.idiv X16.here hx rfl (hb hby d12_63) rfl (by decide) k_) ?_
        show own_Go p e below _ T16 (mkF m 64 #[.val (.ref a1), .val (.long lim), .second, .val (.ref a2)] [(.int ((Int32.ofNat s') / (2 : Int32))), (.int (Int32.ofNat f))])
        refine own_icmp X16 hx 71 (hb hby d12_64) (by decide) (by decide) (fun (hc64 : ¬ ((Int32.ofNat s') / (2 : Int32)) < (Int32.ofNat f)) => ?_) (fun (hc64 : ((Int32.ofNat s') / (2 : Int32)) < (Int32.ofNat f)) => ?_)
        · show own_Go p e below _ T16 (mkF m 71 #[.val (.ref a1), .val (.long lim), .second, .val (.ref a2)] [])
          refine own_retV X16 hx hlk Bd.returns (hb hby d12_71) e16 (by decide) (by decide) ?_
          exact ⟨(x :: O), s', f, rfl, N, K, H, G, ⟨E_a1, F_keys, F_holders, F_goals, F_size, F_first, V_bk, V_bh, V_bg, O_bg, g_a1, g_bk, g_bh, g_bg⟩, HP, hfs, hK, hH, HD, S_H, S_F, E_ag, hDA, hDU⟩
        · show own_Go p e below _ T16 (mkF m 67 #[.val (.ref a1), .val (.long lim), .second, .val (.ref a2)] [])
          refine own_by (fun t_ k_ => XS.aloadN X16.here hx rfl (hb hby d12_67) rfl rfl k_) ?_
          show own_Go p e below _ T16 (mkF m 68 #[.val (.ref a1), .val (.long lim), .second, .val (.ref a2)] [(.ref a1)])
          have HV17 : own_W Z h1 n0 aH aF a1 bk bh bg a2 A (x :: O) D Un s' f := ⟨K, H, G, ⟨E_a1, F_keys, F_holders, F_goals, F_size, F_first, V_bk, V_bh, V_bg, O_bg, g_a1, g_bk, g_bh, g_bg⟩, HP, hfs, hK, hH, HD, S_H, S_F, E_ag, hDA, hDU⟩
          refine own_callP (W := 0) X16 hx hZ (y := (⟨"com/example/hedgewalk/hedgewalk/eval/GoalQueue", "dropSettled", "()V"⟩ : MethodName)) hown (own_w hw 137 rfl) (own_w hw 138 rfl) (own_w hw 51 rfl) (own_w hw 139 rfl) (own_w hw 52 rfl) (own_w hw 140 rfl) (by decide) (by rw [hml]; rfl) (argsL := []) pd_0 rfl (a := a1) e16 E_a1 (rm21 l Z a0 hw [] a1 aH aF bk bh bg a2 A (x :: O) D Un s' f h1 n0 sz1 HV17) (by decide) (by decide) (Nat.le_of_eq rfl) (by decide) (by decide) (rest := []) rfl (hb hby d12_68) ?_
          intro v18 T18 L18 X18 hQ18
          obtain ⟨s18, f18, rfl, N18q, HW18⟩ := hQ18
          have N18 := Fr.app N N18q
          show own_Go p e below _ T18 (mkF m 71 #[.val (.ref a1), .val (.long lim), .second, .val (.ref a2)] [])
          refine own_retV X18 hx hlk Bd.returns (hb hby d12_71) rfl (by decide) (by decide) ?_
          exact ⟨(x :: O), _, _, rfl, N18, HW18⟩
      · obtain ⟨⟨E_x, wx, F_x, hwx⟩, g_x⟩ := HD x (hDA x hxD)
        obtain rfl : wx = .null := by
          rcases hwx with ⟨-, q⟩ | ⟨q, -⟩
          · exact q
          · exact absurd (by simp) q
        have ne19 : x ≠ a1 := ne_exa E_x E_a1 (by decide)
        have ne20 : x ≠ bk := own_exa_arr E_x (own_w hw 34 rfl) V_bk
        have ne21 : x ≠ bh := own_exa_arr E_x (own_w hw 34 rfl) V_bh
        have ne22 : x ≠ bg := own_exa_arr E_x (own_w hw 34 rfl) V_bg
        have ne23 : x ≠ a2 := ne_exa E_x E_ag (by decide)
        show own_Go p e below _ T14 (mkF m 25 #[.val (.ref a1), .val (.long lim), .second, .val (.ref a2)] [])
        refine own_by (fun t_ k_ => XS.aloadN X14.here hx rfl (hb hby d12_25) rfl rfl k_) ?_
        show own_Go p e below _ T14 (mkF m 26 #[.val (.ref a1), .val (.long lim), .second, .val (.ref a2)] [(.ref a1)])
        refine own_getF X14 hx hZ hown (own_w hw 65 rfl) Via.refl e14 F_goals (hb hby d12_26) ?_
        intro T24 X24 e24
        show own_Go p e below _ T24 (mkF m 29 #[.val (.ref a1), .val (.long lim), .second, .val (.ref a2)] [(.ref bg)])
        refine own_by (fun t_ k_ => XS.aloadN X24.here hx rfl (hb hby d12_29) rfl rfl k_) ?_
        show own_Go p e below _ T24 (mkF m 30 #[.val (.ref a1), .val (.long lim), .second, .val (.ref a2)] [(.ref a1), (.ref bg)])
        refine own_getF X24 hx hZ hown (own_w hw 72 rfl) Via.refl e24 F_first (hb hby d12_30) ?_
        intro T25 X25 e25
        show own_Go p e below _ T25 (mkF m 33 #[.val (.ref a1), .val (.long lim), .second, .val (.ref a2)] [(.int (Int32.ofNat f)), (.ref bg)])
        refine own_aaload X25 hx hZ e25 V_bg rfl (v := (.ref x)) f (own_ofi (by omega)) hg (hb hby d12_33) ?_
        show own_Go p e below _ T25 (mkF m 34 #[.val (.ref a1), .val (.long lim), .second, .val (.ref a2)] [(.ref x)])
        refine own_by (fun t_ k_ => XS.iconst X25.here hx rfl (hb hby d12_34) k_) ?_
        show own_Go p e below _ T25 (mkF m 35 #[.val (.ref a1), .val (.long lim), .second, .val (.ref a2)] [(.int (1 : Int32)), (.ref x)])
        refine own_by (fun t_ k_ => XS.aloadN X25.here hx rfl (hb hby d12_35) rfl rfl k_) ?_
        show own_Go p e below _ T25 (mkF m 36 #[.val (.ref a1), .val (.long lim), .second, .val (.ref a2)] [(.ref a2), (.int (1 : Int32)), (.ref x)])
        refine own_callI (W := 0) X25 hx hZ (xi := (⟨"com/example/hedgewalk/hedgewalk/eval/Verdict$Listener", "settled", "(ZLcom/example/hedgewalk/hedgewalk/eval/Agenda;)V"⟩ : MethodName)) (y := (⟨"com/example/hedgewalk/hedgewalk/eval/Verdict$Told", "settled", "(ZLcom/example/hedgewalk/hedgewalk/eval/Agenda;)V"⟩ : MethodName)) hown (own_w hw 107 rfl) (own_w hw 108 rfl) (own_w hw 109 rfl) (by decide) (own_w hw 110 rfl) (own_w hw 111 rfl) (own_w hw 112 rfl) (own_w hw 113 rfl) (own_w hw 106 rfl) (own_w hw 35 rfl) (own_w hw 114 rfl) (by decide) (by rw [hml]; rfl) (argsL := [(.int (1 : Int32)), (.ref a2)]) pd_10 rfl (a := x) e25 E_x (rm17 l Z a0 hw [] x (1 : Int32) a2 aH aF h1 n0 sz1 S_H S_F E_x F_x g_x E_ag) (by decide) (by decide) (Nat.le_of_eq rfl) (by decide) (by decide) (rest := []) rfl (hb hby d12_36) ?_
        intro v26 T26 L26 X26 hQ26
        obtain ⟨rfl, N26q, K26q, E26, w26, F26, hw26⟩ := hQ26
        have N26 := Fr.app N N26q
        have sz26 : n0 ≤ T26.heap.size := Nat.le_trans sz1 K26q.1
        have HD26 : own_D Z T26.heap n0 aH aF (O ++ Un) A := own_D.settle HD K26q E26 F26 hw26 (fun q => (List.mem_append.mp q).elim hxO (hDU x hxD)) (fun y _ hy => by simp [hy])
        show own_Go p e below _ T26 (mkF m 41 #[.val (.ref a1), .val (.long lim), .second, .val (.ref a2)] [])
        refine own_by (fun t_ k_ => XS.aloadN X26.here hx rfl (hb hby d12_41) rfl rfl k_) ?_
        show own_Go p e below _ T26 (mkF m 42 #[.val (.ref a1), .val (.long lim), .second, .val (.ref a2)] [(.ref a1)])
        refine own_by (fun t_ k_ => XS.dup X26.here hx rfl (hb hby d12_42) rfl rfl k_) ?_
        show own_Go p e below _ T26 (mkF m 43 #[.val (.ref a1), .val (.long lim), .second, .val (.ref a2)] [(.ref a1), (.ref a1)])
        have F_first_28 : Fld Z T26.heap a1 "com/example/hedgewalk/hedgewalk/eval/GoalQueue" "firstOpen" "I" (.int (Int32.ofNat f)) := (Fld.keep F_first K26q (ninS (Ne.symm ne19) nin0))
        refine own_getF X26 hx hZ hown (own_w hw 72 rfl) Via.refl rfl F_first_28 (hb hby d12_43) ?_
        intro T27 X27 e27
        show own_Go p e below _ T27 (mkF m 46 #[.val (.ref a1), .val (.long lim), .second, .val (.ref a2)] [(.int (Int32.ofNat f)), (.ref a1)])
        refine own_by (fun t_ k_ => XS.iconst X27.here hx rfl (hb hby d12_46) k_) ?_
        show own_Go p e below _ T27 (mkF m 47 #[.val (.ref a1), .val (.long lim), .second, .val (.ref a2)] [(.int (1 : Int32)), (.int (Int32.ofNat f)), (.ref a1)])
        refine own_by (fun t_ k_ => XS.iadd X27.here hx rfl (hb hby d12_47) rfl k_) ?_
        show own_Go p e below _ T27 (mkF m 48 #[.val (.ref a1), .val (.long lim), .second, .val (.ref a2)] [(.int ((Int32.ofNat f) + (1 : Int32))), (.ref a1)])
        have E_a1_30 : Exa Z T26.heap a1 "com/example/hedgewalk/hedgewalk/eval/GoalQueue" := (Exa.keep E_a1 K26q)
        refine own_putF X27 hx hZ hown (own_w hw 72 rfl) Via.refl e27 F_first_28 E_a1_30 (Or.inl (own_w hw 73 rfl)) (own_w hw 51 rfl) (ty := .int) (by decide) rfl rfl (hb hby d12_48) ?_
        intro T29 h29 X29 e29 W29
        have F29 := Fld.same W29 F_first_28
        have N29 := Fr.snoc X29 N26 g_a1
        have sz29 : n0 ≤ h29.size := Nat.le_trans sz26 (Keep.of_wr W29).1
        show own_Go p e below _ T29 (mkF m 51 #[.val (.ref a1), .val (.long lim), .second, .val (.ref a2)] [])
        refine own_by (fun t_ k_ => XS.goto X29.here hx rfl (pc0 := 51) (pc' := 0) rfl (hb hby d12_51) (by decide) (by decide) k_) ?_
        have E_a1_31 : Exa Z h29 a1 "com/example/hedgewalk/hedgewalk/eval/GoalQueue" := (Exa.wr W29 E_a1_30)
        have F_keys_32 : Fld Z h29 a1 "com/example/hedgewalk/hedgewalk/eval/GoalQueue" "keys" "[J" (.ref bk) := (Fld.other W29 (Fld.keep F_keys K26q (ninS (Ne.symm ne19) nin0)) (Or.inr (slot_ne (Or.inl (own_w hw 59 rfl)) (Or.inl (own_w hw 73 rfl)) (by decide) (t := (.array .long)) (t' := .int) (by decide) (by decide))))
        have F_holders_33 : Fld Z h29 a1 "com/example/hedgewalk/hedgewalk/eval/GoalQueue" "holders" "[I" (.ref bh) := (Fld.other W29 (Fld.keep F_holders K26q (ninS (Ne.symm ne19) nin0)) (Or.inr (slot_ne (Or.inl (own_w hw 62 rfl)) (Or.inl (own_w hw 73 rfl)) (by decide) (t := (.array .int)) (t' := .int) (by decide) (by decide))))
        have F_goals_34 : Fld Z h29 a1 "com/example/hedgewalk/hedgewalk/eval/GoalQueue" "goals" "[Lcom/example/hedgewalk/hedgewalk/eval/Verdict$Listener;" (.ref bg) := (Fld.other W29 (Fld.keep F_goals K26q (ninS (Ne.symm ne19) nin0)) (Or.inr (slot_ne (Or.inl (own_w hw 66 rfl)) (Or.inl (own_w hw 73 rfl)) (by decide) (t := (.array (.object "com/example/hedgewalk/hedgewalk/eval/Verdict$Listener"))) (t' := .int) (by decide) (by decide))))
        have F_size_35 : Fld Z h29 a1 "com/example/hedgewalk/hedgewalk/eval/GoalQueue" "size" "I" (.int (Int32.ofNat s')) := (Fld.other W29 (Fld.keep F_size K26q (ninS (Ne.symm ne19) nin0)) (Or.inr (slot_ne (Or.inl (own_w hw 75 rfl)) (Or.inl (own_w hw 73 rfl)) (by decide) (t := .int) (t' := .int) (by decide) (by decide))))
        have V_bk_36 : own_Arr Z h29 bk .long (K.map Value.long) := (own_Arr.other (own_Arr.keep V_bk K26q (ninS (Ne.symm ne20) nin0)) W29 (Ne.symm ne1))
        have V_bh_37 : own_Arr Z h29 bh .int (H.map Value.int) := (own_Arr.other (own_Arr.keep V_bh K26q (ninS (Ne.symm ne21) nin0)) W29 (Ne.symm ne2))
        have V_bg_38 : own_Arr Z h29 bg (.object "com/example/hedgewalk/hedgewalk/eval/Verdict$Listener") G := (own_Arr.other (own_Arr.keep V_bg K26q (ninS (Ne.symm ne22) nin0)) W29 (Ne.symm ne3))
        have O_bg_39 : own_Ovr Z h29 bg "com/example/hedgewalk/hedgewalk/eval/Verdict$Listener" := (own_Ovr.wr (own_Ovr.keep O_bg K26q) W29)
        have HD26_40 : own_D Z h29 n0 aH aF (O ++ Un) A := (own_D.wrE HD26 W29 E_a1_30)
        have S_H_41 : Sta Z h29 "com/example/hedgewalk/hedgewalk/eval/Verdict" "HOLDS" "Ljava/lang/Object;" (.ref aH) := (Sta.wr W29 (own_Sta_keep S_H K26q (nsS (Exa.nostat E_x) ns0)))
        have S_F_42 : Sta Z h29 "com/example/hedgewalk/hedgewalk/eval/Verdict" "FAILS" "Ljava/lang/Object;" (.ref aF) := (Sta.wr W29 (own_Sta_keep S_F K26q (nsS (Exa.nostat E_x) ns0)))
        have E_ag_43 : Exa Z h29 a2 "com/example/hedgewalk/hedgewalk/eval/Agenda" := (Exa.wr W29 (Exa.keep E_ag K26q))
        exact ih _ _ _ (f + 1) X29 e29 N29 sz29 ⟨E_a1_31, F_keys_32, F_holders_33, F_goals_34, F_size_35, (by rw [← own_ofs]; exact F29), V_bk_36, V_bh_37, V_bg_38, O_bg_39, g_a1, g_bk, g_bh, g_bg⟩ HP2 hlt HD26_40 S_H_41 S_F_42 E_ag_43
  exact lp O _ _ _ f X0 e0 N0 Z0 HG HP hfs HD S_H S_F E_ag
theorem ef_14 (m : MethodId) (a1 : Addr) (x1 : Int32) (a2 : Addr) : entryFrame m #[(.ref a1), (.int x1), (.ref a2)] 3 = mkF m 0 #[.val (.ref a1), .val (.int x1), .val (.ref a2)] [] := by first | (simp [entryFrame, mkF, argsToLocals, Value.category]; done) | rfl
set_option maxRecDepth 65536 in
set_option maxHeartbeats 40000000 in
theorem rm14 (l : Launch) (Z : State) (a0 : Array Value) (hw : ∀ d ∈ tables_1, d.before a0 Z = true) (ws : List Jvm.Cond) (a1 : Addr) (x1 : Int32) (a2 : Addr) (aH : Addr) (aF : Addr) (bk : Addr) (bh : Addr) (bg : Addr) (A : List Addr) (O : List Addr) (D : List Addr) (Un : List Addr) (s' : Nat) (f : Nat) (h0 : Heap) (n0 : Nat) (Z0 : n0 ≤ h0.size) (HW : own_W Z h0 n0 aH aF a1 bk bh bg a2 A O D Un s' f) :
    MetFree l (⟨"com/example/hedgewalk/hedgewalk/eval/GoalQueue", "failHeldAt", "(ILcom/example/hedgewalk/hedgewalk/eval/Agenda;)V"⟩ : MethodName) (head1 (Jvm.Cond.code (⟨"com/example/hedgewalk/hedgewalk/eval/GoalQueue", "failHeldAt", "(ILcom/example/hedgewalk/hedgewalk/eval/Agenda;)V"⟩ : MethodName) prog_34_method_5_code 3 none :: ws) ({ frames := 4, cells := 0, slots := 0, locals := 70 } : Room)) (fun a U => a = #[(.ref a1), (.int x1), (.ref a2)] ∧ Z.Warmed39 U.vm ∧ U.heap = h0) (fun _ _ _ _ _ => True) (fun _ U o U' => ∃ v L, o = .returned v ∧ Q12 Z aH aF a1 bk bh bg a2 A D Un n0 v U'.heap L ∧ FrameEnd U o U' L ({ frames := 4, cells := 0, slots := 0, locals := 70 } : Room).cells ({ frames := 4, cells := 0, slots := 0, locals := 70 } : Room).slots) := by
  refine MetFree.of_bodySF (plainFor_of_name pn_8) hisR ?_
  intro p e s m args below meth c s₁ Bd hml0 hP hK
  obtain ⟨rfl, hZ, hh⟩ := hP
  have hx := Bd.exec
  have hby := Bd.bytes
  have hml : c.maxLocals = 3 := hml0
  have hown : s.vm.findClass "com/example/hedgewalk/hedgewalk/eval/GoalQueue" = some m.cls := findClass_of_methodNamed Bd.named
  have hnm := (name_of_methodNamed Bd.named Bd.method).1
  have hlk : meth.locks = false := BodyLoose.notSynchronized Bd
  have X0 : Stand p l e ({ frames := 4, cells := 0, slots := 0, locals := 70 } : Room) s m #[(.ref a1), (.int x1), (.ref a2)] below meth c s₁ [] 0 0 := Stand.of_body Bd
  have e0 : s₁.heap = h0 := by rw [← hh, Bd.state]; rfl
  have N0 := Fr.nil n0
  refine own_start (Q := Q12 Z aH aF a1 bk bh bg a2 A D Un n0) (ef_14 m a1 x1 a2) ?_
  obtain ⟨K, H, G, HG, HP, hfs, hK, hH, HD, S_H, S_F, E_ag, hDA, hDU⟩ := HW
  have lp : ∀ (s' : Nat) (T : State) (h1 : Heap) (L : List Loc) (G : List Value) (O : List Addr), Stand p l e ({ frames := 4, cells := 0, slots := 0, locals := 70 } : Room) s m #[(.ref a1), (.int x1), (.ref a2)] below meth c T L 0 0 → T.heap = h1 → Fr n0 L → n0 ≤ h1.size → own_G Z h1 n0 a1 bk bh bg K H G s' f → own_P O D G s' f → own_D Z h1 n0 aH aF (O ++ Un) A → Sta Z h1 "com/example/hedgewalk/hedgewalk/eval/Verdict" "HOLDS" "Ljava/lang/Object;" (.ref aH) → Sta Z h1 "com/example/hedgewalk/hedgewalk/eval/Verdict" "FAILS" "Ljava/lang/Object;" (.ref aF) → Exa Z h1 a2 "com/example/hedgewalk/hedgewalk/eval/Agenda" → own_Go p e below (own_Fin s (Q12 Z aH aF a1 bk bh bg a2 A D Un n0) ({ frames := 4, cells := 0, slots := 0, locals := 70 } : Room).cells ({ frames := 4, cells := 0, slots := 0, locals := 70 } : Room).slots) T (mkF m 0 #[.val (.ref a1), .val (.int x1), .val (.ref a2)] []) := by
    intro s'
    induction s' with
    | zero =>
      intro T h1 L G O X eT N sz1 HG HP HD S_H S_F E_ag
      obtain ⟨E_a1, F_keys, F_holders, F_goals, F_size, F_first, V_bk, V_bh, V_bg, O_bg, g_a1, g_bk, g_bh, g_bg⟩ := HG
      have h3 := HP.1
      have h3' := HP.2.1
      have hl4 := HP.2.2.1
      have hln := HP.2.2.2.1
      have ne1 : a1 ≠ bk := own_exa_arr E_a1 (own_w hw 51 rfl) V_bk
      have ne2 : a1 ≠ bh := own_exa_arr E_a1 (own_w hw 51 rfl) V_bh
      have ne3 : a1 ≠ bg := own_exa_arr E_a1 (own_w hw 51 rfl) V_bg
      have ne4 : a1 ≠ a2 := ne_exa E_a1 E_ag (by decide)
      have ne5 : bk ≠ bh := own_Arr.ne V_bk V_bh (by decide)
      have ne6 : bk ≠ bg := own_Arr.ne V_bk V_bg (by decide)
      have ne7 : bk ≠ a2 := Ne.symm (own_exa_arr E_ag (own_w hw 4 rfl) V_bk)
      have ne8 : bh ≠ bg := own_Arr.ne V_bh V_bg (by decide)
      have ne9 : bh ≠ a2 := Ne.symm (own_exa_arr E_ag (own_w hw 4 rfl) V_bh)
      have ne10 : bg ≠ a2 := Ne.symm (own_exa_arr E_ag (own_w hw 4 rfl) V_bg)
      show own_Go p e below _ T (mkF m 0 #[.val (.ref a1), .val (.int x1), .val (.ref a2)] [])
      refine own_by (fun t_ k_ => XS.aloadN X.here hx rfl (hb hby d14_0) rfl rfl k_) ?_
      show own_Go p e below _ T (mkF m 1 #[.val (.ref a1), .val (.int x1), .val (.ref a2)] [(.ref a1)])
      refine own_getF X hx hZ hown (own_w hw 74 rfl) Via.refl eT F_size (hb hby d14_1) ?_
      intro T11 X11 e11
      show own_Go p e below _ T11 (mkF m 4 #[.val (.ref a1), .val (.int x1), .val (.ref a2)] [(.int (Int32.ofNat 0))])
      refine own_if X11 hx 72 (hb hby d14_4) (by decide) (by decide) (fun _ => ?_) (fun hc => absurd (show ¬ (0 : Int32) < (Int32.ofNat 0) from by decide) (by first | exact hc | exact not_not_intro hc))
      show own_Go p e below _ T11 (mkF m 72 #[.val (.ref a1), .val (.int x1), .val (.ref a2)] [])
      refine own_by (fun t_ k_ => XS.aloadN X11.here hx rfl (hb hby d14_72) rfl rfl k_) ?_
      show own_Go p e below _ T11 (mkF m 73 #[.val (.ref a1), .val (.int x1), .val (.ref a2)] [(.ref a1)])
      refine own_by (fun t_ k_ => XS.aloadN X11.here hx rfl (hb hby d14_73) rfl rfl k_) ?_
      show own_Go p e below _ T11 (mkF m 74 #[.val (.ref a1), .val (.int x1), .val (.ref a2)] [(.ref a1), (.ref a1)])
      refine own_getF X11 hx hZ hown (own_w hw 72 rfl) Via.refl e11 F_first (hb hby d14_74) ?_
      intro T12 X12 e12
      show own_Go p e below _ T12 (mkF m 77 #[.val (.ref a1), .val (.int x1), .val (.ref a2)] [(.int (Int32.ofNat f)), (.ref a1)])
      refine own_by (fun t_ k_ => XS.aloadN X12.here hx rfl (hb hby d14_77) rfl rfl k_) ?_
      show own_Go p e below _ T12 (mkF m 78 #[.val (.ref a1), .val (.int x1), .val (.ref a2)] [(.ref a1), (.int (Int32.ofNat f)), (.ref a1)])
      refine own_getF X12 hx hZ hown (own_w hw 74 rfl) Via.refl e12 F_size (hb hby d14_78) ?_
      intro T13 X13 e13
      show own_Go p e below _ T13 (mkF m 81 #[.val (.ref a1), .val (.int x1), .val (.ref a2)] [(.int (Int32.ofNat 0)), (.int (Int32.ofNat f)), (.ref a1)])
      refine own_callS (W := 1) X13 hx hZ (y := (⟨"java/lang/Math", "min", "(II)I"⟩ : MethodName)) hown (own_w hw 97 rfl) (own_w hw 98 rfl) (own_w hw 99 rfl) (own_w hw 100 rfl) (by decide) (by rw [hml]; rfl) (argsL := [(.int (Int32.ofNat f)), (.int (Int32.ofNat 0))]) pd_8 rfl (rm15 l Z a0 hw [] (Int32.ofNat f) (Int32.ofNat 0) h1 n0 sz1) (by decide) (by decide) (Nat.le_of_eq rfl) (by decide) (by decide) (rest := [(.ref a1)]) e13 rfl (hb hby d14_81) ?_
      intro v14 T14 L14 X14 hQ14
      obtain ⟨rfl, N14q, e14⟩ := hQ14
      have N14 := Fr.app N N14q
      show own_Go p e below _ T14 (mkF m 84 #[.val (.ref a1), .val (.int x1), .val (.ref a2)] [(.int (own_min (Int32.ofNat f) (Int32.ofNat 0))), (.ref a1)])
      refine own_putF X14 hx hZ hown (own_w hw 72 rfl) Via.refl e14 F_first E_a1 (Or.inl (own_w hw 73 rfl)) (own_w hw 51 rfl) (ty := .int) (by decide) rfl rfl (hb hby d14_84) ?_
      intro T15 h15 X15 e15 W15
      have F15 := Fld.same W15 F_first
      have N15 := Fr.snoc X15 N14 g_a1
      have sz15 : n0 ≤ h15.size := Nat.le_trans sz1 (Keep.of_wr W15).1
      show own_Go p e below _ T15 (mkF m 87 #[.val (.ref a1), .val (.int x1), .val (.ref a2)] [])
      refine own_retV X15 hx hlk Bd.returns (hb hby d14_87) e15 (by decide) (by decide) ?_
      have E_a1_16 : Exa Z h15 a1 "com/example/hedgewalk/hedgewalk/eval/GoalQueue" := (Exa.wr W15 E_a1)
      have F_keys_17 : Fld Z h15 a1 "com/example/hedgewalk/hedgewalk/eval/GoalQueue" "keys" "[J" (.ref bk) := (Fld.other W15 F_keys (Or.inr (slot_ne (Or.inl (own_w hw 59 rfl)) (Or.inl (own_w hw 73 rfl)) (by decide) (t := (.array .long)) (t' := .int) (by decide) (by decide))))
      have F_holders_18 : Fld Z h15 a1 "com/example/hedgewalk/hedgewalk/eval/GoalQueue" "holders" "[I" (.ref bh) := (Fld.other W15 F_holders (Or.inr (slot_ne (Or.inl (own_w hw 62 rfl)) (Or.inl (own_w hw 73 rfl)) (by decide) (t := (.array .int)) (t' := .int) (by decide) (by decide))))
      have F_goals_19 : Fld Z h15 a1 "com/example/hedgewalk/hedgewalk/eval/GoalQueue" "goals" "[Lcom/example/hedgewalk/hedgewalk/eval/Verdict$Listener;" (.ref bg) := (Fld.other W15 F_goals (Or.inr (slot_ne (Or.inl (own_w hw 66 rfl)) (Or.inl (own_w hw 73 rfl)) (by decide) (t := (.array (.object "com/example/hedgewalk/hedgewalk/eval/Verdict$Listener"))) (t' := .int) (by decide) (by decide))))
      have F_size_20 : Fld Z h15 a1 "com/example/hedgewalk/hedgewalk/eval/GoalQueue" "size" "I" (.int (Int32.ofNat 0)) := (Fld.other W15 F_size (Or.inr (slot_ne (Or.inl (own_w hw 75 rfl)) (Or.inl (own_w hw 73 rfl)) (by decide) (t := .int) (t' := .int) (by decide) (by decide))))
      have V_bk_21 : own_Arr Z h15 bk .long (K.map Value.long) := (own_Arr.other V_bk W15 (Ne.symm ne1))
      have V_bh_22 : own_Arr Z h15 bh .int (H.map Value.int) := (own_Arr.other V_bh W15 (Ne.symm ne2))
      have V_bg_23 : own_Arr Z h15 bg (.object "com/example/hedgewalk/hedgewalk/eval/Verdict$Listener") G := (own_Arr.other V_bg W15 (Ne.symm ne3))
      have O_bg_24 : own_Ovr Z h15 bg "com/example/hedgewalk/hedgewalk/eval/Verdict$Listener" := (own_Ovr.wr O_bg W15)
      have HD_25 : own_D Z h15 n0 aH aF (O ++ Un) A := (own_D.wrE HD W15 E_a1)
      have S_H_26 : Sta Z h15 "com/example/hedgewalk/hedgewalk/eval/Verdict" "HOLDS" "Ljava/lang/Object;" (.ref aH) := (Sta.wr W15 S_H)
      have S_F_27 : Sta Z h15 "com/example/hedgewalk/hedgewalk/eval/Verdict" "FAILS" "Ljava/lang/Object;" (.ref aF) := (Sta.wr W15 S_F)
      have E_ag_28 : Exa Z h15 a2 "com/example/hedgewalk/hedgewalk/eval/Agenda" := (Exa.wr W15 E_ag)
      exact ⟨O, 0, Nat.min f 0, rfl, N15, K, H, G, ⟨E_a1_16, F_keys_17, F_holders_18, F_goals_19, F_size_20, (by rw [← own_minN (by omega) (by omega)]; exact F15), V_bk_21, V_bh_22, V_bg_23, O_bg_24, g_a1, g_bk, g_bh, g_bg⟩, HP.min, Nat.min_le_right _ _, hK, hH, HD_25, S_H_26, S_F_27, E_ag_28, hDA, hDU⟩
    | succ s' ih =>
      intro T h1 L G O X eT N sz1 HG HP HD S_H S_F E_ag
      obtain ⟨E_a1, F_keys, F_holders, F_goals, F_size, F_first, V_bk, V_bh, V_bg, O_bg, g_a1, g_bk, g_bh, g_bg⟩ := HG
      have h3 := HP.1
      have h3' := HP.2.1
      have hl4 := HP.2.2.1
      have hln := HP.2.2.2.1
      have ne1 : a1 ≠ bk := own_exa_arr E_a1 (own_w hw 51 rfl) V_bk
      have ne2 : a1 ≠ bh := own_exa_arr E_a1 (own_w hw 51 rfl) V_bh
      have ne3 : a1 ≠ bg := own_exa_arr E_a1 (own_w hw 51 rfl) V_bg
      have ne4 : a1 ≠ a2 := ne_exa E_a1 E_ag (by decide)
      have ne5 : bk ≠ bh := own_Arr.ne V_bk V_bh (by decide)
      have ne6 : bk ≠ bg := own_Arr.ne V_bk V_bg (by decide)
      have ne7 : bk ≠ a2 := Ne.symm (own_exa_arr E_ag (own_w hw 4 rfl) V_bk)
      have ne8 : bh ≠ bg := own_Arr.ne V_bh V_bg (by decide)
      have ne9 : bh ≠ a2 := Ne.symm (own_exa_arr E_ag (own_w hw 4 rfl) V_bh)
      have ne10 : bg ≠ a2 := Ne.symm (own_exa_arr E_ag (own_w hw 4 rfl) V_bg)
      show own_Go p e below _ T (mkF m 0 #[.val (.ref a1), .val (.int x1), .val (.ref a2)] [])
      refine own_by (fun t_ k_ => XS.aloadN X.here hx rfl (hb hby d14_0) rfl rfl k_) ?_
      show own_Go p e below _ T (mkF m 1 #[.val (.ref a1), .val (.int x1), .val (.ref a2)] [(.ref a1)])
      refine own_getF X hx hZ hown (own_w hw 74 rfl) Via.refl eT F_size (hb hby d14_1) ?_
      intro T11 X11 e11
      show own_Go p e below _ T11 (mkF m 4 #[.val (.ref a1), .val (.int x1), .val (.ref a2)] [(.int (Int32.ofNat (s' + 1)))])
      refine own_if X11 hx 72 (hb hby d14_4) (by decide) (by decide) (fun hc => absurd (show (0 : Int32) < (Int32.ofNat (s' + 1)) from own_pos (by omega)) (by first | exact hc | exact not_not_intro hc)) (fun _ => ?_)
      show own_Go p e below _ T11 (mkF m 7 #[.val (.ref a1), .val (.int x1), .val (.ref a2)] [])
      refine own_by (fun t_ k_ => XS.aloadN X11.here hx rfl (hb hby d14_7) rfl rfl k_) ?_
      show own_Go p e below _ T11 (mkF m 8 #[.val (.ref a1), .val (.int x1), .val (.ref a2)] [(.ref a1)])
      refine own_getF X11 hx hZ hown (own_w hw 61 rfl) Via.refl e11 F_holders (hb hby d14_8) ?_
      intro T12 X12 e12
      show own_Go p e below _ T12 (mkF m 11 #[.val (.ref a1), .val (.int x1), .val (.ref a2)] [(.ref bh)])
      refine own_by (fun t_ k_ => XS.aloadN X12.here hx rfl (hb hby d14_11) rfl rfl k_) ?_
      show own_Go p e below _ T12 (mkF m 12 #[.val (.ref a1), .val (.int x1), .val (.ref a2)] [(.ref a1), (.ref bh)])
      refine own_getF X12 hx hZ hown (own_w hw 74 rfl) Via.refl e12 F_size (hb hby d14_12) ?_
      intro T13 X13 e13
      show own_Go p e below _ T13 (mkF m 15 #[.val (.ref a1), .val (.int x1), .val (.ref a2)] [(.int (Int32.ofNat (s' + 1))), (.ref bh)])
      refine own_by (fun t_ k_ => XS.iconst X13.here hx rfl (hb hby d14_15) k_) ?_
      show own_Go p e below _ T13 (mkF m 16 #[.val (.ref a1), .val (.int x1), .val (.ref a2)] [(.int (1 : Int32)), (.int (Int32.ofNat (s' + 1))), (.ref bh)])
      refine own_by (fun t_ k_ => XS.isub X13.here hx rfl (hb hby d14_16) rfl k_) ?_
      show own_Go p e below _ T13 (mkF m 17 #[.val (.ref a1), .val (.int x1), .val (.ref a2)] [(.int ((Int32.ofNat (s' + 1)) - (1 : Int32))), (.ref bh)])
      refine own_iaload X13 hx hZ e13 V_bh (v := (.int (H.getD s' 0))) s' (by rw [own_sub1]; exact own_ofi (by omega)) (own_unw (by omega)) (hb hby d14_17) ?_
      show own_Go p e below _ T13 (mkF m 18 #[.val (.ref a1), .val (.int x1), .val (.ref a2)] [(.int (H.getD s' 0))])
      refine own_by (fun t_ k_ => XS.iloadN X13.here hx rfl (hb hby d14_18) rfl k_) ?_
      show own_Go p e below _ T13 (mkF m 19 #[.val (.ref a1), .val (.int x1), .val (.ref a2)] [(.int x1), (.int (H.getD s' 0))])
      refine own_icmp X13 hx 72 (hb hby d14_19) (by decide) (by decide) (fun (hc19 : ¬ (H.getD s' 0) = x1) => ?_) (fun (hc19 : (H.getD s' 0) = x1) => ?_)
      · show own_Go p e below _ T13 (mkF m 72 #[.val (.ref a1), .val (.int x1), .val (.ref a2)] [])
        refine own_by (fun t_ k_ => XS.aloadN X13.here hx rfl (hb hby d14_72) rfl rfl k_) ?_
        show own_Go p e below _ T13 (mkF m 73 #[.val (.ref a1), .val (.int x1), .val (.ref a2)] [(.ref a1)])
        refine own_by (fun t_ k_ => XS.aloadN X13.here hx rfl (hb hby d14_73) rfl rfl k_) ?_
        show own_Go p e below _ T13 (mkF m 74 #[.val (.ref a1), .val (.int x1), .val (.ref a2)] [(.ref a1), (.ref a1)])
        refine own_getF X13 hx hZ hown (own_w hw 72 rfl) Via.refl e13 F_first (hb hby d14_74) ?_
        intro T14 X14 e14
        show own_Go p e below _ T14 (mkF m 77 #[.val (.ref a1), .val (.int x1), .val (.ref a2)] [(.int (Int32.ofNat f)), (.ref a1)])
        refine own_by (fun t_ k_ => XS.aloadN X14.here hx rfl (hb hby d14_77) rfl rfl k_) ?_
        show own_Go p e below _ T14 (mkF m 78 #[.val (.ref a1), .val (.int x1), .val (.ref a2)] [(.ref a1), (.int (Int32.ofNat f)), (.ref a1)])
        refine own_getF X14 hx hZ hown (own_w hw 74 rfl) Via.refl e14 F_size (hb hby d14_78) ?_
        intro T15 X15 e15
        show own_Go p e below _ T15 (mkF m 81 #[.val (.ref a1), .val (.int x1), .val (.ref a2)] [(.int (Int32.ofNat (s' + 1))), (.int (Int32.ofNat f)), (.ref a1)])
        refine own_callS (W := 1) X15 hx hZ (y := (⟨"java/lang/Math", "min", "(II)I"⟩ : MethodName)) hown (own_w hw 97 rfl) (own_w hw 98 rfl) (own_w hw 99 rfl) (own_w hw 100 rfl) (by decide) (by rw [hml]; rfl) (argsL := [(.int (Int32.ofNat f)), (.int (Int32.ofNat (s' + 1)))]) pd_8 rfl (rm15 l Z a0 hw [] (Int32.ofNat f) (Int32.ofNat (s' + 1)) h1 n0 sz1) (by decide) (by decide) (Nat.le_of_eq rfl) (by decide) (by decide) (rest := [(.ref a1)]) e15 rfl (hb hby d14_81) ?_
        intro v16 T16 L16 X16 hQ16
        obtain ⟨rfl, N16q, e16⟩ := hQ16
        have N16 := Fr.app N N16q
        show own_Go p e below _ T16 (mkF m 84 #[.val (.ref a1), .val (.int x1), .val (.ref a2)] [(.int (own_min (Int32.ofNat f) (Int32.ofNat (s' + 1)))), (.ref a1)])
        refine own_putF X16 hx hZ hown (own_w hw 72 rfl) Via.refl e16 F_first E_a1 (Or.inl (own_w hw 73 rfl)) (own_w hw 51 rfl) (ty := .int) (by decide) rfl rfl (hb hby d14_84) ?_
        intro T17 h17 X17 e17 W17
        have F17 := Fld.same W17 F_first
        have N17 := Fr.snoc X17 N16 g_a1
        have sz17 : n0 ≤ h17.size := Nat.le_trans sz1 (Keep.of_wr W17).1
        show own_Go p e below _ T17 (mkF m 87 #[.val (.ref a1), .val (.int x1), .val (.ref a2)] [])
        refine own_retV X17 hx hlk Bd.returns (hb hby d14_87) e17 (by decide) (by decide) ?_
        have E_a1_18 : Exa Z h17 a1 "com/example/hedgewalk/hedgewalk/eval/GoalQueue" := (Exa.wr W17 E_a1)
        have F_keys_19 : Fld Z h17 a1 "com/example/hedgewalk/hedgewalk/eval/GoalQueue" "keys" "[J" (.ref bk) := (Fld.other W17 F_keys (Or.inr (slot_ne (Or.inl (own_w hw 59 rfl)) (Or.inl (own_w hw 73 rfl)) (by decide) (t := (.array .long)) (t' := .int) (by decide) (by decide))))
        have F_holders_20 : Fld Z h17 a1 "com/example/hedgewalk/hedgewalk/eval/GoalQueue" "holders" "[I" (.ref bh) := (Fld.other W17 F_holders (Or.inr (slot_ne (Or.inl (own_w hw 62 rfl)) (Or.inl (own_w hw 73 rfl)) (by decide) (t := (.array .int)) (t' := .int) (by decide) (by decide))))
        have F_goals_21 : Fld Z h17 a1 "com/example/hedgewalk/hedgewalk/eval/GoalQueue" "goals" "[Lcom/example/hedgewalk/hedgewalk/eval/Verdict$Listener;" (.ref bg) := (Fld.other W17 F_goals (Or.inr (slot_ne (Or.inl (own_w hw 66 rfl)) (Or.inl (own_w hw 73 rfl)) (by decide) (t := (.array (.object "com/example/hedgewalk/hedgewalk/eval/Verdict$Listener"))) (t' := .int) (by decide) (by decide))))
        have F_size_22 : Fld Z h17 a1 "com/example/hedgewalk/hedgewalk/eval/GoalQueue" "size" "I" (.int (Int32.ofNat (s' + 1))) := (Fld.other W17 F_size (Or.inr (slot_ne (Or.inl (own_w hw 75 rfl)) (Or.inl (own_w hw 73 rfl)) (by decide) (t := .int) (t' := .int) (by decide) (by decide))))
        have V_bk_23 : own_Arr Z h17 bk .long (K.map Value.long) := (own_Arr.other V_bk W17 (Ne.symm ne1))
        have V_bh_24 : own_Arr Z h17 bh .int (H.map Value.int) := (own_Arr.other V_bh W17 (Ne.symm ne2))
        have V_bg_25 : own_Arr Z h17 bg (.object "com/example/hedgewalk/hedgewalk/eval/Verdict$Listener") G := (own_Arr.other V_bg W17 (Ne.symm ne3))
        have O_bg_26 : own_Ovr Z h17 bg "com/example/hedgewalk/hedgewalk/eval/Verdict$Listener" := (own_Ovr.wr O_bg W17)
        have HD_27 : own_D Z h17 n0 aH aF (O ++ Un) A := (own_D.wrE HD W17 E_a1)
        have S_H_28 : Sta Z h17 "com/example/hedgewalk/hedgewalk/eval/Verdict" "HOLDS" "Ljava/lang/Object;" (.ref aH) := (Sta.wr W17 S_H)
        have S_F_29 : Sta Z h17 "com/example/hedgewalk/hedgewalk/eval/Verdict" "FAILS" "Ljava/lang/Object;" (.ref aF) := (Sta.wr W17 S_F)
        have E_ag_30 : Exa Z h17 a2 "com/example/hedgewalk/hedgewalk/eval/Agenda" := (Exa.wr W17 E_ag)
        exact ⟨O, (s' + 1), Nat.min f (s' + 1), rfl, N17, K, H, G, ⟨E_a1_18, F_keys_19, F_holders_20, F_goals_21, F_size_22, (by rw [← own_minN (by omega) (by omega)]; exact F17), V_bk_23, V_bh_24, V_bg_25, O_bg_26, g_a1, g_bk, g_bh, g_bg⟩, HP.min, Nat.min_le_right _ _, hK, hH, HD_27, S_H_28, S_F_29, E_ag_30, hDA, hDU⟩
      · show own_Go p e below _ T13 (mkF m 22 #[.val (.ref a1), .val (.int x1), .val (.ref a2)] [])
        refine own_by (fun t_ k_ => XS.aloadN X13.here hx rfl (hb hby d14_22) rfl rfl k_) ?_
        show own_Go p e below _ T13 (mkF m 23 #[.val (.ref a1), .val (.int x1), .val (.ref a2)] [(.ref a1)])
        refine own_by (fun t_ k_ => XS.dup X13.here hx rfl (hb hby d14_23) rfl rfl k_) ?_
        show own_Go p e below _ T13 (mkF m 24 #[.val (.ref a1), .val (.int x1), .val (.ref a2)] [(.ref a1), (.ref a1)])
        refine own_getF X13 hx hZ hown (own_w hw 74 rfl) Via.refl e13 F_size (hb hby d14_24) ?_
        intro T31 X31 e31
        show own_Go p e below _ T31 (mkF m 27 #[.val (.ref a1), .val (.int x1), .val (.ref a2)] [(.int (Int32.ofNat (s' + 1))), (.ref a1)])
        refine own_by (fun t_ k_ => XS.iconst X31.here hx rfl (hb hby d14_27) k_) ?_
        show own_Go p e below _ T31 (mkF m 28 #[.val (.ref a1), .val (.int x1), .val (.ref a2)] [(.int (1 : Int32)), (.int (Int32.ofNat (s' + 1))), (.ref a1)])
        refine own_by (fun t_ k_ => XS.isub X31.here hx rfl (hb hby d14_28) rfl k_) ?_
        show own_Go p e below _ T31 (mkF m 29 #[.val (.ref a1), .val (.int x1), .val (.ref a2)] [(.int ((Int32.ofNat (s' + 1)) - (1 : Int32))), (.ref a1)])
        refine own_putF X31 hx hZ hown (own_w hw 74 rfl) Via.refl e31 F_size E_a1 (Or.inl (own_w hw 75 rfl)) (own_w hw 51 rfl) (ty := .int) (by decide) rfl rfl (hb hby d14_29) ?_
        intro T32 h32 X32 e32 W32
        have F32 := Fld.same W32 F_size
        have N32 := Fr.snoc X32 N g_a1
        have sz32 : n0 ≤ h32.size := Nat.le_trans sz1 (Keep.of_wr W32).1
        rw [own_sub1] at F32
        show own_Go p e below _ T32 (mkF m 32 #[.val (.ref a1), .val (.int x1), .val (.ref a2)] [])
        refine own_by (fun t_ k_ => XS.aloadN X32.here hx rfl (hb hby d14_32) rfl rfl k_) ?_
        show own_Go p e below _ T32 (mkF m 33 #[.val (.ref a1), .val (.int x1), .val (.ref a2)] [(.ref a1)])
        refine own_getF X32 hx hZ hown (own_w hw 74 rfl) Via.refl e32 F32 (hb hby d14_33) ?_
        intro T33 X33 e33
        show own_Go p e below _ T33 (mkF m 36 #[.val (.ref a1), .val (.int x1), .val (.ref a2)] [(.int (Int32.ofNat s'))])
        refine own_by (fun t_ k_ => XS.aloadN X33.here hx rfl (hb hby d14_36) rfl rfl k_) ?_
        show own_Go p e below _ T33 (mkF m 37 #[.val (.ref a1), .val (.int x1), .val (.ref a2)] [(.ref a1), (.int (Int32.ofNat s'))])
        have F_first_35 : Fld Z h32 a1 "com/example/hedgewalk/hedgewalk/eval/GoalQueue" "firstOpen" "I" (.int (Int32.ofNat f)) := (Fld.other W32 F_first (Or.inr (slot_ne (Or.inl (own_w hw 73 rfl)) (Or.inl (own_w hw 75 rfl)) (by decide) (t := .int) (t' := .int) (by decide) (by decide))))
        refine own_getF X33 hx hZ hown (own_w hw 72 rfl) Via.refl e33 F_first_35 (hb hby d14_37) ?_
        intro T34 X34 e34
        show own_Go p e below _ T34 (mkF m 40 #[.val (.ref a1), .val (.int x1), .val (.ref a2)] [(.int (Int32.ofNat f)), (.int (Int32.ofNat s'))])
        refine own_icmp X34 hx 59 (hb hby d14_40) (by decide) (by decide) (fun (hc40 : (Int32.ofNat s') < (Int32.ofNat f)) => ?_) (fun (hc40 : ¬ (Int32.ofNat s') < (Int32.ofNat f)) => ?_)
        · have HP2 := HP.lo ((own_ltN (by omega) (by omega)).mp hc40)
          show own_Go p e below _ T34 (mkF m 59 #[.val (.ref a1), .val (.int x1), .val (.ref a2)] [])
          refine own_by (fun t_ k_ => XS.aloadN X34.here hx rfl (hb hby d14_59) rfl rfl k_) ?_
          show own_Go p e below _ T34 (mkF m 60 #[.val (.ref a1), .val (.int x1), .val (.ref a2)] [(.ref a1)])
          have F_goals_37 : Fld Z h32 a1 "com/example/hedgewalk/hedgewalk/eval/GoalQueue" "goals" "[Lcom/example/hedgewalk/hedgewalk/eval/Verdict$Listener;" (.ref bg) := (Fld.other W32 F_goals (Or.inr (slot_ne (Or.inl (own_w hw 66 rfl)) (Or.inl (own_w hw 75 rfl)) (by decide) (t := (.array (.object "com/example/hedgewalk/hedgewalk/eval/Verdict$Listener"))) (t' := .int) (by decide) (by decide))))
          refine own_getF X34 hx hZ hown (own_w hw 65 rfl) Via.refl e34 F_goals_37 (hb hby d14_60) ?_
          intro T36 X36 e36
          show own_Go p e below _ T36 (mkF m 63 #[.val (.ref a1), .val (.int x1), .val (.ref a2)] [(.ref bg)])
          refine own_by (fun t_ k_ => XS.aloadN X36.here hx rfl (hb hby d14_63) rfl rfl k_) ?_
          show own_Go p e below _ T36 (mkF m 64 #[.val (.ref a1), .val (.int x1), .val (.ref a2)] [(.ref a1), (.ref bg)])
          refine own_getF X36 hx hZ hown (own_w hw 74 rfl) Via.refl e36 F32 (hb hby d14_64) ?_
          intro T38 X38 e38
          show own_Go p e below _ T38 (mkF m 67 #[.val (.ref a1), .val (.int x1), .val (.ref a2)] [(.int (Int32.ofNat s')), (.ref bg)])
          refine own_by (fun t_ k_ => XS.aconstNull X38.here hx rfl (hb hby d14_67) k_) ?_
          show own_Go p e below _ T38 (mkF m 68 #[.val (.ref a1), .val (.int x1), .val (.ref a2)] [.null, (.int (Int32.ofNat s')), (.ref bg)])
          have V_bg_40 : own_Arr Z h32 bg (.object "com/example/hedgewalk/hedgewalk/eval/Verdict$Listener") G := (own_Arr.other V_bg W32 (Ne.symm ne3))
          refine own_aastore X38 hx hZ e38 V_bg_40 rfl (Or.inl rfl) rfl s' (own_ofi (by omega)) (by omega) (hb hby d14_68) ?_
          intro T39 h39 X39 e39 W39 A39
          have V39_0 : own_Arr Z h39 bg (.object "com/example/hedgewalk/hedgewalk/eval/Verdict$Listener") (G.set s' .null) := A39
          have N39 := Fr.snoc X39 N32 g_bg
          have sz39 : n0 ≤ h39.size := Nat.le_trans sz32 (Keep.of_wr W39).1
          show own_Go p e below _ T39 (mkF m 69 #[.val (.ref a1), .val (.int x1), .val (.ref a2)] [])
          refine own_by (fun t_ k_ => XS.goto X39.here hx rfl (pc0 := 69) (pc' := 0) rfl (hb hby d14_69) (by decide) (by decide) k_) ?_
          have E_a1_41 : Exa Z h39 a1 "com/example/hedgewalk/hedgewalk/eval/GoalQueue" := (Exa.wr W39 (Exa.wr W32 E_a1))
          have F_keys_42 : Fld Z h39 a1 "com/example/hedgewalk/hedgewalk/eval/GoalQueue" "keys" "[J" (.ref bk) := (Fld.other W39 (Fld.other W32 F_keys (Or.inr (slot_ne (Or.inl (own_w hw 59 rfl)) (Or.inl (own_w hw 75 rfl)) (by decide) (t := (.array .long)) (t' := .int) (by decide) (by decide)))) (Or.inl ne3))
          have F_holders_43 : Fld Z h39 a1 "com/example/hedgewalk/hedgewalk/eval/GoalQueue" "holders" "[I" (.ref bh) := (Fld.other W39 (Fld.other W32 F_holders (Or.inr (slot_ne (Or.inl (own_w hw 62 rfl)) (Or.inl (own_w hw 75 rfl)) (by decide) (t := (.array .int)) (t' := .int) (by decide) (by decide)))) (Or.inl ne3))
          have F_goals_44 : Fld Z h39 a1 "com/example/hedgewalk/hedgewalk/eval/GoalQueue" "goals" "[Lcom/example/hedgewalk/hedgewalk/eval/Verdict$Listener;" (.ref bg) := (Fld.other W39 F_goals_37 (Or.inl ne3))
          have F32_45 : Fld Z h39 a1 "com/example/hedgewalk/hedgewalk/eval/GoalQueue" "size" "I" (.int (Int32.ofNat s')) := (Fld.other W39 F32 (Or.inl ne3))
          have F_first_46 : Fld Z h39 a1 "com/example/hedgewalk/hedgewalk/eval/GoalQueue" "firstOpen" "I" (.int (Int32.ofNat f)) := (Fld.other W39 F_first_35 (Or.inl ne3))
          have V_bk_47 : own_Arr Z h39 bk .long (K.map Value.long) := (own_Arr.other (own_Arr.other V_bk W32 (Ne.symm ne1)) W39 ne6)
          have V_bh_48 : own_Arr Z h39 bh .int (H.map Value.int) := (own_Arr.other (own_Arr.other V_bh W32 (Ne.symm ne2)) W39 ne8)
          have O_bg_49 : own_Ovr Z h39 bg "com/example/hedgewalk/hedgewalk/eval/Verdict$Listener" := (own_Ovr.wr (own_Ovr.wr O_bg W32) W39)
          have HD_50 : own_D Z h39 n0 aH aF (O ++ Un) A := (own_D.keepA (own_D.wrE HD W32 E_a1) (Keep.of_wr W39) V_bg_40 (own_w hw 34 rfl))
          have S_H_51 : Sta Z h39 "com/example/hedgewalk/hedgewalk/eval/Verdict" "HOLDS" "Ljava/lang/Object;" (.ref aH) := (Sta.wr W39 (Sta.wr W32 S_H))
          have S_F_52 : Sta Z h39 "com/example/hedgewalk/hedgewalk/eval/Verdict" "FAILS" "Ljava/lang/Object;" (.ref aF) := (Sta.wr W39 (Sta.wr W32 S_F))
          have E_ag_53 : Exa Z h39 a2 "com/example/hedgewalk/hedgewalk/eval/Agenda" := (Exa.wr W39 (Exa.wr W32 E_ag))
          exact ih _ _ _ _ _ X39 e39 N39 sz39 ⟨E_a1_41, F_keys_42, F_holders_43, F_goals_44, F32_45, F_first_46, V_bk_47, V_bh_48, V39_0, O_bg_49, g_a1, g_bk, g_bh, g_bg⟩ HP2 HD_50 S_H_51 S_F_52 E_ag_53
        · have HD_54 : own_D Z h32 n0 aH aF (O ++ Un) A := (own_D.wrE HD W32 E_a1)
          obtain ⟨O2, x, rfl, hxD, hxO, hg, HP2⟩ := HP.hi (Nat.le_of_not_lt fun q => hc40 ((own_ltN (by omega) (by omega)).mpr q))
          obtain ⟨⟨E_x, wx, F_x, hwx⟩, g_x⟩ := HD_54 x (hDA x hxD)
          obtain rfl : wx = .null := by
            rcases hwx with ⟨-, q⟩ | ⟨q, -⟩
            · exact q
            · exact absurd (by simp) q
          have E_a1_56 : Exa Z h32 a1 "com/example/hedgewalk/hedgewalk/eval/GoalQueue" := (Exa.wr W32 E_a1)
          have ne55 : x ≠ a1 := ne_exa E_x E_a1_56 (by decide)
          have V_bk_58 : own_Arr Z h32 bk .long (K.map Value.long) := (own_Arr.other V_bk W32 (Ne.symm ne1))
          have ne57 : x ≠ bk := own_exa_arr E_x (own_w hw 34 rfl) V_bk_58
          have V_bh_60 : own_Arr Z h32 bh .int (H.map Value.int) := (own_Arr.other V_bh W32 (Ne.symm ne2))
          have ne59 : x ≠ bh := own_exa_arr E_x (own_w hw 34 rfl) V_bh_60
          have V_bg_62 : own_Arr Z h32 bg (.object "com/example/hedgewalk/hedgewalk/eval/Verdict$Listener") G := (own_Arr.other V_bg W32 (Ne.symm ne3))
          have ne61 : x ≠ bg := own_exa_arr E_x (own_w hw 34 rfl) V_bg_62
          have E_ag_64 : Exa Z h32 a2 "com/example/hedgewalk/hedgewalk/eval/Agenda" := (Exa.wr W32 E_ag)
          have ne63 : x ≠ a2 := ne_exa E_x E_ag_64 (by decide)
          show own_Go p e below _ T34 (mkF m 43 #[.val (.ref a1), .val (.int x1), .val (.ref a2)] [])
          refine own_by (fun t_ k_ => XS.aloadN X34.here hx rfl (hb hby d14_43) rfl rfl k_) ?_
          show own_Go p e below _ T34 (mkF m 44 #[.val (.ref a1), .val (.int x1), .val (.ref a2)] [(.ref a1)])
          have F_goals_66 : Fld Z h32 a1 "com/example/hedgewalk/hedgewalk/eval/GoalQueue" "goals" "[Lcom/example/hedgewalk/hedgewalk/eval/Verdict$Listener;" (.ref bg) := (Fld.other W32 F_goals (Or.inr (slot_ne (Or.inl (own_w hw 66 rfl)) (Or.inl (own_w hw 75 rfl)) (by decide) (t := (.array (.object "com/example/hedgewalk/hedgewalk/eval/Verdict$Listener"))) (t' := .int) (by decide) (by decide))))
          refine own_getF X34 hx hZ hown (own_w hw 65 rfl) Via.refl e34 F_goals_66 (hb hby d14_44) ?_
          intro T65 X65 e65
          show own_Go p e below _ T65 (mkF m 47 #[.val (.ref a1), .val (.int x1), .val (.ref a2)] [(.ref bg)])
          refine own_by (fun t_ k_ => XS.aloadN X65.here hx rfl (hb hby d14_47) rfl rfl k_) ?_
          show own_Go p e below _ T65 (mkF m 48 #[.val (.ref a1), .val (.int x1), .val (.ref a2)] [(.ref a1), (.ref bg)])
          refine own_getF X65 hx hZ hown (own_w hw 74 rfl) Via.refl e65 F32 (hb hby d14_48) ?_
          intro T67 X67 e67
          show own_Go p e below _ T67 (mkF m 51 #[.val (.ref a1), .val (.int x1), .val (.ref a2)] [(.int (Int32.ofNat s')), (.ref bg)])
          refine own_aaload X67 hx hZ e67 V_bg_62 rfl (v := (.ref x)) s' (own_ofi (by omega)) hg (hb hby d14_51) ?_
          show own_Go p e below _ T67 (mkF m 52 #[.val (.ref a1), .val (.int x1), .val (.ref a2)] [(.ref x)])
          refine own_by (fun t_ k_ => XS.iconst X67.here hx rfl (hb hby d14_52) k_) ?_
          show own_Go p e below _ T67 (mkF m 53 #[.val (.ref a1), .val (.int x1), .val (.ref a2)] [(.int (0 : Int32)), (.ref x)])
          refine own_by (fun t_ k_ => XS.aloadN X67.here hx rfl (hb hby d14_53) rfl rfl k_) ?_
          show own_Go p e below _ T67 (mkF m 54 #[.val (.ref a1), .val (.int x1), .val (.ref a2)] [(.ref a2), (.int (0 : Int32)), (.ref x)])
          have S_H_68 : Sta Z h32 "com/example/hedgewalk/hedgewalk/eval/Verdict" "HOLDS" "Ljava/lang/Object;" (.ref aH) := (Sta.wr W32 S_H)
          have S_F_69 : Sta Z h32 "com/example/hedgewalk/hedgewalk/eval/Verdict" "FAILS" "Ljava/lang/Object;" (.ref aF) := (Sta.wr W32 S_F)
          refine own_callI (W := 0) X67 hx hZ (xi := (⟨"com/example/hedgewalk/hedgewalk/eval/Verdict$Listener", "settled", "(ZLcom/example/hedgewalk/hedgewalk/eval/Agenda;)V"⟩ : MethodName)) (y := (⟨"com/example/hedgewalk/hedgewalk/eval/Verdict$Told", "settled", "(ZLcom/example/hedgewalk/hedgewalk/eval/Agenda;)V"⟩ : MethodName)) hown (own_w hw 107 rfl) (own_w hw 108 rfl) (own_w hw 109 rfl) (by decide) (own_w hw 110 rfl) (own_w hw 111 rfl) (own_w hw 112 rfl) (own_w hw 113 rfl) (own_w hw 106 rfl) (own_w hw 35 rfl) (own_w hw 114 rfl) (by decide) (by rw [hml]; rfl) (argsL := [(.int (0 : Int32)), (.ref a2)]) pd_10 rfl (a := x) e67 E_x (rm17 l Z a0 hw [] x (0 : Int32) a2 aH aF h32 n0 sz32 S_H_68 S_F_69 E_x F_x g_x E_ag_64) (by decide) (by decide) (Nat.le_of_eq rfl) (by decide) (by decide) (rest := []) rfl (hb hby d14_54) ?_
          intro v70 T70 L70 X70 hQ70
          obtain ⟨rfl, N70q, K70q, E70, w70, F70, hw70⟩ := hQ70
          have N70 := Fr.app N32 N70q
          have sz70 : n0 ≤ T70.heap.size := Nat.le_trans sz32 K70q.1
          have HD70 : own_D Z T70.heap n0 aH aF (O2 ++ Un) A := own_D.settle HD_54 K70q E70 F70 hw70 (fun q => (List.mem_append.mp q).elim hxO (hDU x hxD)) (fun y _ hy => by simp [hy])
          show own_Go p e below _ T70 (mkF m 59 #[.val (.ref a1), .val (.int x1), .val (.ref a2)] [])
          refine own_by (fun t_ k_ => XS.aloadN X70.here hx rfl (hb hby d14_59) rfl rfl k_) ?_
          show own_Go p e below _ T70 (mkF m 60 #[.val (.ref a1), .val (.int x1), .val (.ref a2)] [(.ref a1)])
          have F_goals_72 : Fld Z T70.heap a1 "com/example/hedgewalk/hedgewalk/eval/GoalQueue" "goals" "[Lcom/example/hedgewalk/hedgewalk/eval/Verdict$Listener;" (.ref bg) := (Fld.keep F_goals_66 K70q (ninS (Ne.symm ne55) nin0))
          refine own_getF X70 hx hZ hown (own_w hw 65 rfl) Via.refl rfl F_goals_72 (hb hby d14_60) ?_
          intro T71 X71 e71
          show own_Go p e below _ T71 (mkF m 63 #[.val (.ref a1), .val (.int x1), .val (.ref a2)] [(.ref bg)])
          refine own_by (fun t_ k_ => XS.aloadN X71.here hx rfl (hb hby d14_63) rfl rfl k_) ?_
          show own_Go p e below _ T71 (mkF m 64 #[.val (.ref a1), .val (.int x1), .val (.ref a2)] [(.ref a1), (.ref bg)])
          have F32_74 : Fld Z T70.heap a1 "com/example/hedgewalk/hedgewalk/eval/GoalQueue" "size" "I" (.int (Int32.ofNat s')) := (Fld.keep F32 K70q (ninS (Ne.symm ne55) nin0))
          refine own_getF X71 hx hZ hown (own_w hw 74 rfl) Via.refl e71 F32_74 (hb hby d14_64) ?_
          intro T73 X73 e73
          show own_Go p e below _ T73 (mkF m 67 #[.val (.ref a1), .val (.int x1), .val (.ref a2)] [(.int (Int32.ofNat s')), (.ref bg)])
          refine own_by (fun t_ k_ => XS.aconstNull X73.here hx rfl (hb hby d14_67) k_) ?_
          show own_Go p e below _ T73 (mkF m 68 #[.val (.ref a1), .val (.int x1), .val (.ref a2)] [.null, (.int (Int32.ofNat s')), (.ref bg)])
          have V_bg_76 : own_Arr Z T70.heap bg (.object "com/example/hedgewalk/hedgewalk/eval/Verdict$Listener") G := (own_Arr.keep V_bg_62 K70q (ninS (Ne.symm ne61) nin0))
          refine own_aastore X73 hx hZ e73 V_bg_76 rfl (Or.inl rfl) rfl s' (own_ofi (by omega)) (by omega) (hb hby d14_68) ?_
          intro T75 h75 X75 e75 W75 A75
          have V75_0 : own_Arr Z h75 bg (.object "com/example/hedgewalk/hedgewalk/eval/Verdict$Listener") (G.set s' .null) := A75
          have N75 := Fr.snoc X75 N70 g_bg
          have sz75 : n0 ≤ h75.size := Nat.le_trans sz70 (Keep.of_wr W75).1
          show own_Go p e below _ T75 (mkF m 69 #[.val (.ref a1), .val (.int x1), .val (.ref a2)] [])
          refine own_by (fun t_ k_ => XS.goto X75.here hx rfl (pc0 := 69) (pc' := 0) rfl (hb hby d14_69) (by decide) (by decide) k_) ?_
          have E_a1_77 : Exa Z h75 a1 "com/example/hedgewalk/hedgewalk/eval/GoalQueue" := (Exa.wr W75 (Exa.keep E_a1_56 K70q))
          have F_keys_78 : Fld Z h75 a1 "com/example/hedgewalk/hedgewalk/eval/GoalQueue" "keys" "[J" (.ref bk) := (Fld.other W75 (Fld.keep (Fld.other W32 F_keys (Or.inr (slot_ne (Or.inl (own_w hw 59 rfl)) (Or.inl (own_w hw 75 rfl)) (by decide) (t := (.array .long)) (t' := .int) (by decide) (by decide)))) K70q (ninS (Ne.symm ne55) nin0)) (Or.inl ne3))
          have F_holders_79 : Fld Z h75 a1 "com/example/hedgewalk/hedgewalk/eval/GoalQueue" "holders" "[I" (.ref bh) := (Fld.other W75 (Fld.keep (Fld.other W32 F_holders (Or.inr (slot_ne (Or.inl (own_w hw 62 rfl)) (Or.inl (own_w hw 75 rfl)) (by decide) (t := (.array .int)) (t' := .int) (by decide) (by decide)))) K70q (ninS (Ne.symm ne55) nin0)) (Or.inl ne3))
          have F_goals_80 : Fld Z h75 a1 "com/example/hedgewalk/hedgewalk/eval/GoalQueue" "goals" "[Lcom/example/hedgewalk/hedgewalk/eval/Verdict$Listener;" (.ref bg) := (Fld.other W75 F_goals_72 (Or.inl ne3))
          have F32_81 : Fld Z h75 a1 "com/example/hedgewalk/hedgewalk/eval/GoalQueue" "size" "I" (.int (Int32.ofNat s')) := (Fld.other W75 F32_74 (Or.inl ne3))
          have F_first_82 : Fld Z h75 a1 "com/example/hedgewalk/hedgewalk/eval/GoalQueue" "firstOpen" "I" (.int (Int32.ofNat f)) := (Fld.other W75 (Fld.keep F_first_35 K70q (ninS (Ne.symm ne55) nin0)) (Or.inl ne3))
          have V_bk_83 : own_Arr Z h75 bk .long (K.map Value.long) := (own_Arr.other (own_Arr.keep V_bk_58 K70q (ninS (Ne.symm ne57) nin0)) W75 ne6)
          have V_bh_84 : own_Arr Z h75 bh .int (H.map Value.int) := (own_Arr.other (own_Arr.keep V_bh_60 K70q (ninS (Ne.symm ne59) nin0)) W75 ne8)
          have O_bg_85 : own_Ovr Z h75 bg "com/example/hedgewalk/hedgewalk/eval/Verdict$Listener" := (own_Ovr.wr (own_Ovr.keep (own_Ovr.wr O_bg W32) K70q) W75)
          have HD70_86 : own_D Z h75 n0 aH aF (O2 ++ Un) A := (own_D.keepA HD70 (Keep.of_wr W75) V_bg_76 (own_w hw 34 rfl))
          have S_H_87 : Sta Z h75 "com/example/hedgewalk/hedgewalk/eval/Verdict" "HOLDS" "Ljava/lang/Object;" (.ref aH) := (Sta.wr W75 (own_Sta_keep S_H_68 K70q (nsS (Exa.nostat E_x) ns0)))
          have S_F_88 : Sta Z h75 "com/example/hedgewalk/hedgewalk/eval/Verdict" "FAILS" "Ljava/lang/Object;" (.ref aF) := (Sta.wr W75 (own_Sta_keep S_F_69 K70q (nsS (Exa.nostat E_x) ns0)))
          have E_ag_89 : Exa Z h75 a2 "com/example/hedgewalk/hedgewalk/eval/Agenda" := (Exa.wr W75 (Exa.keep E_ag_64 K70q))
          exact ih _ _ _ _ _ X75 e75 N75 sz75 ⟨E_a1_77, F_keys_78, F_holders_79, F_goals_80, F32_81, F_first_82, V_bk_83, V_bh_84, V75_0, O_bg_85, g_a1, g_bk, g_bh, g_bg⟩ HP2 HD70_86 S_H_87 S_F_88 E_ag_89
  exact lp s' _ _ _ G O X0 e0 N0 Z0 HG HP HD S_H S_F E_ag
theorem ef_11 (m : MethodId) (a1 : Addr) (a2 : Addr) (x1 : Int32) (y1 : Int64) (x2 : Int32) : entryFrame m #[(.ref a1), (.ref a2), (.int x1), (.long y1), (.int x2)] 6 = mkF m 0 #[.val (.ref a1), .val (.ref a2), .val (.int x1), .val (.long y1), .second, .val (.int x2)] [] := by first | (simp [entryFrame, mkF, argsToLocals, Value.category]; done) | rfl
set_option maxRecDepth 65536 in
set_option maxHeartbeats 40000000 in
theorem rm11 (l : Launch) (Z : State) (a0 : Array Value) (hw : ∀ d ∈ tables_1, d.before a0 Z = true) (ws : List Jvm.Cond) (a1 : Addr) (a2 : Addr) (x1 : Int32) (y1 : Int64) (x2 : Int32) (aH : Addr) (aF : Addr) (bk : Addr) (bh : Addr) (bg : Addr) (A : List Addr) (O : List Addr) (D : List Addr) (Un : List Addr) (s' : Nat) (f : Nat) (h0 : Heap) (n0 : Nat) (Z0 : n0 ≤ h0.size) (HW : own_W Z h0 n0 aH aF a1 bk bh bg a2 A O D Un s' f) :
    MetFree l (⟨"com/example/hedgewalk/hedgewalk/eval/GoalQueueHasOpenPinLaw", "step", "(Lcom/example/hedgewalk/hedgewalk/eval/GoalQueue;Lcom/example/hedgewalk/hedgewalk/eval/Agenda;IJI)V"⟩ : MethodName) (head1 (Jvm.Cond.code (⟨"com/example/hedgewalk/hedgewalk/eval/GoalQueueHasOpenPinLaw", "step", "(Lcom/example/hedgewalk/hedgewalk/eval/GoalQueue;Lcom/example/hedgewalk/hedgewalk/eval/Agenda;IJI)V"⟩ : MethodName) method_3_code 6 none :: ws) ({ frames := 5, cells := 0, slots := 0, locals := 90 } : Room)) (fun a U => a = #[(.ref a1), (.ref a2), (.int x1), (.long y1), (.int x2)] ∧ Z.Warmed39 U.vm ∧ U.heap = h0) (fun _ _ _ _ _ => True) (fun _ U o U' => ∃ v L, o = .returned v ∧ Q12 Z aH aF a1 bk bh bg a2 A D Un n0 v U'.heap L ∧ FrameEnd U o U' L ({ frames := 5, cells := 0, slots := 0, locals := 90 } : Room).cells ({ frames := 5, cells := 0, slots := 0, locals := 90 } : Room).slots) := by
  refine MetFree.of_bodySF (plainFor_of_name pn_0) hisR ?_
  intro p e s m args below meth c s₁ Bd hml0 hP hK
  obtain ⟨rfl, hZ, hh⟩ := hP
  have hx := Bd.exec
  have hby := Bd.bytes
  have hml : c.maxLocals = 6 := hml0
  have hown : s.vm.findClass "com/example/hedgewalk/hedgewalk/eval/GoalQueueHasOpenPinLaw" = some m.cls := findClass_of_methodNamed Bd.named
  have hnm := (name_of_methodNamed Bd.named Bd.method).1
  have hlk : meth.locks = false := BodyLoose.notSynchronized Bd
  have X0 : Stand p l e ({ frames := 5, cells := 0, slots := 0, locals := 90 } : Room) s m #[(.ref a1), (.ref a2), (.int x1), (.long y1), (.int x2)] below meth c s₁ [] 0 0 := Stand.of_body Bd
  have e0 : s₁.heap = h0 := by rw [← hh, Bd.state]; rfl
  have N0 := Fr.nil n0
  refine own_start (Q := Q12 Z aH aF a1 bk bh bg a2 A D Un n0) (ef_11 m a1 a2 x1 y1 x2) ?_
  have E_a1 := HW.exa
  show own_Go p e below _ s₁ (mkF m 0 #[.val (.ref a1), .val (.ref a2), .val (.int x1), .val (.long y1), .second, .val (.int x2)] [])
  refine own_by (fun t_ k_ => XS.iloadN X0.here hx rfl (hb hby d11_0) rfl k_) ?_
  show own_Go p e below _ s₁ (mkF m 1 #[.val (.ref a1), .val (.ref a2), .val (.int x1), .val (.long y1), .second, .val (.int x2)] [(.int x1)])
  refine own_by (fun t_ k_ => XS.iconst X0.here hx rfl (hb hby d11_1) k_) ?_
  show own_Go p e below _ s₁ (mkF m 2 #[.val (.ref a1), .val (.ref a2), .val (.int x1), .val (.long y1), .second, .val (.int x2)] [(.int (1 : Int32)), (.int x1)])
  refine own_by (fun t_ k_ => XS.iand X0.here hx rfl (hb hby d11_2) rfl k_) ?_
  show own_Go p e below _ s₁ (mkF m 3 #[.val (.ref a1), .val (.ref a2), .val (.int x1), .val (.long y1), .second, .val (.int x2)] [(.int (x1 &&& (1 : Int32)))])
  refine own_if X0 hx 15 (hb hby d11_3) (by decide) (by decide) (fun (hc3 : ¬ (x1 &&& (1 : Int32)) = (0 : Int32)) => ?_) (fun (hc3 : (x1 &&& (1 : Int32)) = (0 : Int32)) => ?_)
  · show own_Go p e below _ s₁ (mkF m 15 #[.val (.ref a1), .val (.ref a2), .val (.int x1), .val (.long y1), .second, .val (.int x2)] [])
    refine own_by (fun t_ k_ => XS.aloadN X0.here hx rfl (hb hby d11_15) rfl rfl k_) ?_
    show own_Go p e below _ s₁ (mkF m 16 #[.val (.ref a1), .val (.ref a2), .val (.int x1), .val (.long y1), .second, .val (.int x2)] [(.ref a1)])
    refine own_by (fun t_ k_ => XS.iload X0.here hx rfl (hb hby d11_16) rfl k_) ?_
    show own_Go p e below _ s₁ (mkF m 18 #[.val (.ref a1), .val (.ref a2), .val (.int x1), .val (.long y1), .second, .val (.int x2)] [(.int x2), (.ref a1)])
    refine own_by (fun t_ k_ => XS.aloadN X0.here hx rfl (hb hby d11_18) rfl rfl k_) ?_
    show own_Go p e below _ s₁ (mkF m 19 #[.val (.ref a1), .val (.ref a2), .val (.int x1), .val (.long y1), .second, .val (.int x2)] [(.ref a2), (.int x2), (.ref a1)])
    refine own_callV (W := 0) X0 hx hZ (y := (⟨"com/example/hedgewalk/hedgewalk/eval/GoalQueue", "failHeldAt", "(ILcom/example/hedgewalk/hedgewalk/eval/Agenda;)V"⟩ : MethodName)) (z := (⟨"com/example/hedgewalk/hedgewalk/eval/GoalQueue", "failHeldAt", "(ILcom/example/hedgewalk/hedgewalk/eval/Agenda;)V"⟩ : MethodName)) hown (own_w hw 92 rfl) (own_w hw 93 rfl) (notFace_of_selects (args := #[]) (mvT hZ (own_w hw 95 rfl))) (own_w hw 95 rfl) (own_w hw 94 rfl) (own_w hw 52 rfl) (own_w hw 96 rfl) (by decide) (by rw [hml]; rfl) (argsL := [(.int x2), (.ref a2)]) pd_7 rfl (a := a1) e0 E_a1 (rm14 l Z a0 hw [] a1 x2 a2 aH aF bk bh bg A O D Un s' f h0 n0 Z0 HW) (by decide) (by decide) (Nat.le_of_eq rfl) (by decide) (by decide) (rest := []) rfl (hb hby d11_19) ?_
    intro v1 T1 L1 X1 hQ1
    obtain ⟨O1, s1, f1, rfl, N1q, HW1⟩ := hQ1
    have N1 := Fr.app N0 N1q
    show own_Go p e below _ T1 (mkF m 22 #[.val (.ref a1), .val (.ref a2), .val (.int x1), .val (.long y1), .second, .val (.int x2)] [])
    refine own_retV X1 hx hlk Bd.returns (hb hby d11_22) rfl (by decide) (by decide) ?_
    exact ⟨_, _, _, rfl, N1, HW1⟩
  · show own_Go p e below _ s₁ (mkF m 6 #[.val (.ref a1), .val (.ref a2), .val (.int x1), .val (.long y1), .second, .val (.int x2)] [])
    refine own_by (fun t_ k_ => XS.aloadN X0.here hx rfl (hb hby d11_6) rfl rfl k_) ?_
    show own_Go p e below _ s₁ (mkF m 7 #[.val (.ref a1), .val (.ref a2), .val (.int x1), .val (.long y1), .second, .val (.int x2)] [(.ref a1)])
    refine own_by (fun t_ k_ => XT.lloadN X0.here hx rfl (hb hby d11_7) rfl k_) ?_
    show own_Go p e below _ s₁ (mkF m 8 #[.val (.ref a1), .val (.ref a2), .val (.int x1), .val (.long y1), .second, .val (.int x2)] [(.long y1), (.ref a1)])
    refine own_by (fun t_ k_ => XS.aloadN X0.here hx rfl (hb hby d11_8) rfl rfl k_) ?_
    show own_Go p e below _ s₁ (mkF m 9 #[.val (.ref a1), .val (.ref a2), .val (.int x1), .val (.long y1), .second, .val (.int x2)] [(.ref a2), (.long y1), (.ref a1)])
    refine own_callV (W := 0) X0 hx hZ (y := (⟨"com/example/hedgewalk/hedgewalk/eval/GoalQueue", "succeedBelow", "(JLcom/example/hedgewalk/hedgewalk/eval/Agenda;)V"⟩ : MethodName)) (z := (⟨"com/example/hedgewalk/hedgewalk/eval/GoalQueue", "succeedBelow", "(JLcom/example/hedgewalk/hedgewalk/eval/Agenda;)V"⟩ : MethodName)) hown (own_w hw 84 rfl) (own_w hw 85 rfl) (notFace_of_selects (args := #[]) (mvT hZ (own_w hw 87 rfl))) (own_w hw 87 rfl) (own_w hw 86 rfl) (own_w hw 52 rfl) (own_w hw 88 rfl) (by decide) (by rw [hml]; rfl) (argsL := [(.long y1), (.ref a2)]) pd_5 rfl (a := a1) e0 E_a1 (rm12 l Z a0 hw [] a1 y1 a2 aH aF bk bh bg A O D Un s' f h0 n0 Z0 HW) (by decide) (by decide) (Nat.le_of_eq rfl) (by decide) (by decide) (rest := []) rfl (hb hby d11_9) ?_
    intro v2 T2 L2 X2 hQ2
    obtain ⟨O2, s2, f2, rfl, N2q, HW2⟩ := hQ2
    have N2 := Fr.app N0 N2q
    show own_Go p e below _ T2 (mkF m 12 #[.val (.ref a1), .val (.ref a2), .val (.int x1), .val (.long y1), .second, .val (.int x2)] [])
    refine own_by (fun t_ k_ => XS.goto X2.here hx rfl (pc0 := 12) (pc' := 22) rfl (hb hby d11_12) (by decide) (by decide) k_) ?_
    show own_Go p e below _ T2 (mkF m 22 #[.val (.ref a1), .val (.ref a2), .val (.int x1), .val (.long y1), .second, .val (.int x2)] [])
    refine own_retV X2 hx hlk Bd.returns (hb hby d11_22) rfl (by decide) (by decide) ?_
    exact ⟨_, _, _, rfl, N2, HW2⟩
theorem ef_13 (m : MethodId) (n1 : Int32) (a1 : Addr) (a2 : Addr) (a3 : Addr) : entryFrame m #[(.int n1), (.ref a1), (.ref a2), (.ref a3)] 4 = mkF m 0 #[.val (.int n1), .val (.ref a1), .val (.ref a2), .val (.ref a3)] [] := by first | (simp [entryFrame, mkF, argsToLocals, Value.category]; done) | rfl
set_option maxRecDepth 65536 in
set_option maxHeartbeats 40000000 in
theorem rm13 (l : Launch) (Z : State) (a0 : Array Value) (hw : ∀ d ∈ tables_1, d.before a0 Z = true) (ws : List Jvm.Cond) (n1 : Int32) (a1 : Addr) (a2 : Addr) (a3 : Addr) (q : Addr) (aH : Addr) (aF : Addr) (bk : Addr) (bh : Addr) (bg : Addr) (ag : Addr) (A : List Addr) (O : List Addr) (D : List Addr) (Un : List Addr) (s' : Nat) (f : Nat) (h0 : Heap) (n0 : Nat) (Z0 : n0 ≤ h0.size) (HW : own_W Z h0 n0 aH aF q bk bh bg ag A O D Un s' f) (hD : (n1 = 0 ∧ D = []) ∨ (n1 = 1 ∧ D = [a1]) ∨ (n1 = 2 ∧ D = [a1, a2]) ∨ (n1 = 3 ∧ D = [a1, a2, a3])) :
    MetFree l (⟨"com/example/hedgewalk/hedgewalk/eval/GoalQueueHasOpenPinLaw", "anyOpen", "(ILcom/example/hedgewalk/hedgewalk/eval/Verdict$Told;Lcom/example/hedgewalk/hedgewalk/eval/Verdict$Told;Lcom/example/hedgewalk/hedgewalk/eval/Verdict$Told;)Z"⟩ : MethodName) (head1 (Jvm.Cond.code (⟨"com/example/hedgewalk/hedgewalk/eval/GoalQueueHasOpenPinLaw", "anyOpen", "(ILcom/example/hedgewalk/hedgewalk/eval/Verdict$Told;Lcom/example/hedgewalk/hedgewalk/eval/Verdict$Told;Lcom/example/hedgewalk/hedgewalk/eval/Verdict$Told;)Z"⟩ : MethodName) method_4_code 4 (some .boolean) :: ws) ({ frames := 1, cells := 0, slots := 0, locals := 14 } : Room)) (fun a U => a = #[(.int n1), (.ref a1), (.ref a2), (.ref a3)] ∧ Z.Warmed39 U.vm ∧ U.heap = h0) (fun _ _ _ _ _ => True) (fun _ U o U' => ∃ v L, o = .returned v ∧ QI (own_h O) h0 n0 v U'.heap L ∧ FrameEnd U o U' L ({ frames := 1, cells := 0, slots := 0, locals := 14 } : Room).cells ({ frames := 1, cells := 0, slots := 0, locals := 14 } : Room).slots) := by
  refine MetFree.of_bodySF (plainFor_of_name pn_0) hisR ?_
  intro p e s m args below meth c s₁ Bd hml0 hP hK
  obtain ⟨rfl, hZ, hh⟩ := hP
  have hx := Bd.exec
  have hby := Bd.bytes
  have hml : c.maxLocals = 4 := hml0
  have hown : s.vm.findClass "com/example/hedgewalk/hedgewalk/eval/GoalQueueHasOpenPinLaw" = some m.cls := findClass_of_methodNamed Bd.named
  have hnm := (name_of_methodNamed Bd.named Bd.method).1
  have hlk : meth.locks = false := BodyLoose.notSynchronized Bd
  have X0 : Stand p l e ({ frames := 1, cells := 0, slots := 0, locals := 14 } : Room) s m #[(.int n1), (.ref a1), (.ref a2), (.ref a3)] below meth c s₁ [] 0 0 := Stand.of_body Bd
  have e0 : s₁.heap = h0 := by rw [← hh, Bd.state]; rfl
  have N0 := Fr.nil n0
  refine own_start (Q := QI (own_h O) h0 n0) (ef_13 m n1 a1 a2 a3) ?_
  obtain ⟨K, H, G, -, HP, -, -, -, HD, S_H, S_F, -, hDA, hDU⟩ := HW
  have hO := HP.2.2.2.2.2.1
  rcases hD with ⟨rfl, rfl⟩ | ⟨rfl, rfl⟩ | ⟨rfl, rfl⟩ | ⟨rfl, rfl⟩
  · have hD2 := hO
    show own_Go p e below _ s₁ (mkF m 0 #[.val (.int (0 : Int32)), .val (.ref a1), .val (.ref a2), .val (.ref a3)] [])
    refine own_by (fun t_ k_ => XS.iloadN X0.here hx rfl (hb hby d13_0) rfl k_) ?_
    show own_Go p e below _ s₁ (mkF m 1 #[.val (.int (0 : Int32)), .val (.ref a1), .val (.ref a2), .val (.ref a3)] [(.int (0 : Int32))])
    refine own_if X0 hx 11 (hb hby d13_1) (by decide) (by decide) (fun _ => ?_) (fun hc => absurd (show ¬ (0 : Int32) < (0 : Int32) from by decide) (by first | exact hc | exact not_not_intro hc))
    show own_Go p e below _ s₁ (mkF m 11 #[.val (.int (0 : Int32)), .val (.ref a1), .val (.ref a2), .val (.ref a3)] [])
    refine own_by (fun t_ k_ => XS.iloadN X0.here hx rfl (hb hby d13_11) rfl k_) ?_
    show own_Go p e below _ s₁ (mkF m 12 #[.val (.int (0 : Int32)), .val (.ref a1), .val (.ref a2), .val (.ref a3)] [(.int (0 : Int32))])
    refine own_by (fun t_ k_ => XS.iconst X0.here hx rfl (hb hby d13_12) k_) ?_
    show own_Go p e below _ s₁ (mkF m 13 #[.val (.int (0 : Int32)), .val (.ref a1), .val (.ref a2), .val (.ref a3)] [(.int (1 : Int32)), (.int (0 : Int32))])
    refine own_icmp X0 hx 23 (hb hby d13_13) (by decide) (by decide) (fun _ => ?_) (fun hc => absurd (show ¬ (1 : Int32) < (0 : Int32) from by decide) (by first | exact hc | exact not_not_intro hc))
    show own_Go p e below _ s₁ (mkF m 23 #[.val (.int (0 : Int32)), .val (.ref a1), .val (.ref a2), .val (.ref a3)] [])
    refine own_by (fun t_ k_ => XS.iloadN X0.here hx rfl (hb hby d13_23) rfl k_) ?_
    show own_Go p e below _ s₁ (mkF m 24 #[.val (.int (0 : Int32)), .val (.ref a1), .val (.ref a2), .val (.ref a3)] [(.int (0 : Int32))])
    refine own_by (fun t_ k_ => XS.iconst X0.here hx rfl (hb hby d13_24) k_) ?_
    show own_Go p e below _ s₁ (mkF m 25 #[.val (.int (0 : Int32)), .val (.ref a1), .val (.ref a2), .val (.ref a3)] [(.int (2 : Int32)), (.int (0 : Int32))])
    refine own_icmp X0 hx 39 (hb hby d13_25) (by decide) (by decide) (fun _ => ?_) (fun hc => absurd (show ¬ (2 : Int32) < (0 : Int32) from by decide) (by first | exact hc | exact not_not_intro hc))
    show own_Go p e below _ s₁ (mkF m 39 #[.val (.int (0 : Int32)), .val (.ref a1), .val (.ref a2), .val (.ref a3)] [])
    refine own_by (fun t_ k_ => XS.iconst X0.here hx rfl (hb hby d13_39) k_) ?_
    show own_Go p e below _ s₁ (mkF m 40 #[.val (.int (0 : Int32)), .val (.ref a1), .val (.ref a2), .val (.ref a3)] [(.int (0 : Int32))])
    refine own_retZ X0 hx hlk Bd.returns (by decide) (hb hby d13_40) e0 (by decide) (by decide) ?_
    exact ⟨by rw [own_hn hO (by intro x hx; simp at hx)], N0, rfl⟩
  · have hD2 := hO
    have E_a1 := (HD a1 (hDA a1 (by simp))).1.1
    obtain ⟨w_a1, F_a1, hz_a1⟩ := (HD a1 (hDA a1 (by simp))).1.open (hDU a1 (by simp))
    show own_Go p e below _ s₁ (mkF m 0 #[.val (.int (1 : Int32)), .val (.ref a1), .val (.ref a2), .val (.ref a3)] [])
    refine own_by (fun t_ k_ => XS.iloadN X0.here hx rfl (hb hby d13_0) rfl k_) ?_
    show own_Go p e below _ s₁ (mkF m 1 #[.val (.int (1 : Int32)), .val (.ref a1), .val (.ref a2), .val (.ref a3)] [(.int (1 : Int32))])
    refine own_if X0 hx 11 (hb hby d13_1) (by decide) (by decide) (fun hc => absurd (show (0 : Int32) < (1 : Int32) from by decide) (by first | exact hc | exact not_not_intro hc)) (fun _ => ?_)
    show own_Go p e below _ s₁ (mkF m 4 #[.val (.int (1 : Int32)), .val (.ref a1), .val (.ref a2), .val (.ref a3)] [])
    refine own_by (fun t_ k_ => XS.aloadN X0.here hx rfl (hb hby d13_4) rfl rfl k_) ?_
    show own_Go p e below _ s₁ (mkF m 5 #[.val (.int (1 : Int32)), .val (.ref a1), .val (.ref a2), .val (.ref a3)] [(.ref a1)])
    refine own_callVU (W := 0) X0 hx hZ (y := (⟨"com/example/hedgewalk/hedgewalk/eval/Verdict$Told", "isOpen", "()Z"⟩ : MethodName)) (z := (⟨"com/example/hedgewalk/hedgewalk/eval/Verdict", "isOpen", "()Z"⟩ : MethodName)) (owner := "com/example/hedgewalk/hedgewalk/eval/Verdict") hown (own_w hw 134 rfl) (own_w hw 135 rfl) (by decide) (own_w hw 126 rfl) (own_w hw 136 rfl) (own_w hw 127 rfl) (own_w hw 42 rfl) (own_w hw 129 rfl) (by decide) (by rw [hml]; rfl) (argsL := []) pd_2 rfl (a := a1) e0 E_a1 (rm20 l Z a0 hw [] a1 aH aF w_a1 (own_m a1 O) h0 n0 Z0 S_H S_F F_a1 hz_a1) (by decide) (by decide) (Nat.le_of_eq rfl) (by decide) (by decide) (rest := []) rfl (hb hby d13_5) ?_
    intro v1 T1 L1 X1 hQ1
    obtain ⟨rfl, N1q, e1⟩ := hQ1
    have N1 := Fr.app N0 N1q
    show own_Go p e below _ T1 (mkF m 8 #[.val (.int (1 : Int32)), .val (.ref a1), .val (.ref a2), .val (.ref a3)] [(.int (own_m a1 O))])
    refine own_if X1 hx 35 (hb hby d13_8) (by decide) (by decide) (fun (hc8 : ¬ (own_m a1 O) = (0 : Int32)) => ?_) (fun (hc8 : (own_m a1 O) = (0 : Int32)) => ?_)
    · show own_Go p e below _ T1 (mkF m 35 #[.val (.int (1 : Int32)), .val (.ref a1), .val (.ref a2), .val (.ref a3)] [])
      refine own_by (fun t_ k_ => XS.iconst X1.here hx rfl (hb hby d13_35) k_) ?_
      show own_Go p e below _ T1 (mkF m 36 #[.val (.int (1 : Int32)), .val (.ref a1), .val (.ref a2), .val (.ref a3)] [(.int (1 : Int32))])
      refine own_by (fun t_ k_ => XS.goto X1.here hx rfl (pc0 := 36) (pc' := 40) rfl (hb hby d13_36) (by decide) (by decide) k_) ?_
      show own_Go p e below _ T1 (mkF m 40 #[.val (.int (1 : Int32)), .val (.ref a1), .val (.ref a2), .val (.ref a3)] [(.int (1 : Int32))])
      refine own_retZ X1 hx hlk Bd.returns (by decide) (hb hby d13_40) e1 (by decide) (by decide) ?_
      exact ⟨by rw [own_hm (own_m1 hc8)], N1, rfl⟩
    · show own_Go p e below _ T1 (mkF m 11 #[.val (.int (1 : Int32)), .val (.ref a1), .val (.ref a2), .val (.ref a3)] [])
      refine own_by (fun t_ k_ => XS.iloadN X1.here hx rfl (hb hby d13_11) rfl k_) ?_
      show own_Go p e below _ T1 (mkF m 12 #[.val (.int (1 : Int32)), .val (.ref a1), .val (.ref a2), .val (.ref a3)] [(.int (1 : Int32))])
      refine own_by (fun t_ k_ => XS.iconst X1.here hx rfl (hb hby d13_12) k_) ?_
      show own_Go p e below _ T1 (mkF m 13 #[.val (.int (1 : Int32)), .val (.ref a1), .val (.ref a2), .val (.ref a3)] [(.int (1 : Int32)), (.int (1 : Int32))])
      refine own_icmp X1 hx 23 (hb hby d13_13) (by decide) (by decide) (fun _ => ?_) (fun hc => absurd (show ¬ (1 : Int32) < (1 : Int32) from by decide) (by first | exact hc | exact not_not_intro hc))
      show own_Go p e below _ T1 (mkF m 23 #[.val (.int (1 : Int32)), .val (.ref a1), .val (.ref a2), .val (.ref a3)] [])
      refine own_by (fun t_ k_ => XS.iloadN X1.here hx rfl (hb hby d13_23) rfl k_) ?_
      show own_Go p e below _ T1 (mkF m 24 #[.val (.int (1 : Int32)), .val (.ref a1), .val (.ref a2), .val (.ref a3)] [(.int (1 : Int32))])
      refine own_by (fun t_ k_ => XS.iconst X1.here hx rfl (hb hby d13_24) k_) ?_
      show own_Go p e below _ T1 (mkF m 25 #[.val (.int (1 : Int32)), .val (.ref a1), .val (.ref a2), .val (.ref a3)] [(.int (2 : Int32)), (.int (1 : Int32))])
      refine own_icmp X1 hx 39 (hb hby d13_25) (by decide) (by decide) (fun _ => ?_) (fun hc => absurd (show ¬ (2 : Int32) < (1 : Int32) from by decide) (by first | exact hc | exact not_not_intro hc))
      show own_Go p e below _ T1 (mkF m 39 #[.val (.int (1 : Int32)), .val (.ref a1), .val (.ref a2), .val (.ref a3)] [])
      refine own_by (fun t_ k_ => XS.iconst X1.here hx rfl (hb hby d13_39) k_) ?_
      show own_Go p e below _ T1 (mkF m 40 #[.val (.int (1 : Int32)), .val (.ref a1), .val (.ref a2), .val (.ref a3)] [(.int (0 : Int32))])
      refine own_retZ X1 hx hlk Bd.returns (by decide) (hb hby d13_40) e1 (by decide) (by decide) ?_
      exact ⟨by rw [own_hn hO (by intro x hx; simp only [List.mem_cons, List.not_mem_nil, or_false] at hx; rcases hx with rfl; exact own_m0 hc8)], N1, rfl⟩
  · have hD2 := hO
    have E_a1 := (HD a1 (hDA a1 (by simp))).1.1
    obtain ⟨w_a1, F_a1, hz_a1⟩ := (HD a1 (hDA a1 (by simp))).1.open (hDU a1 (by simp))
    have E_a2 := (HD a2 (hDA a2 (by simp))).1.1
    obtain ⟨w_a2, F_a2, hz_a2⟩ := (HD a2 (hDA a2 (by simp))).1.open (hDU a2 (by simp))
    show own_Go p e below _ s₁ (mkF m 0 #[.val (.int (2 : Int32)), .val (.ref a1), .val (.ref a2), .val (.ref a3)] [])
    refine own_by (fun t_ k_ => XS.iloadN X0.here hx rfl (hb hby d13_0) rfl k_) ?_
    show own_Go p e below _ s₁ (mkF m 1 #[.val (.int (2 : Int32)), .val (.ref a1), .val (.ref a2), .val (.ref a3)] [(.int (2 : Int32))])
    refine own_if X0 hx 11 (hb hby d13_1) (by decide) (by decide) (fun hc => absurd (show (0 : Int32) < (2 : Int32) from by decide) (by first | exact hc | exact not_not_intro hc)) (fun _ => ?_)
    show own_Go p e below _ s₁ (mkF m 4 #[.val (.int (2 : Int32)), .val (.ref a1), .val (.ref a2), .val (.ref a3)] [])
    refine own_by (fun t_ k_ => XS.aloadN X0.here hx rfl (hb hby d13_4) rfl rfl k_) ?_
    show own_Go p e below _ s₁ (mkF m 5 #[.val (.int (2 : Int32)), .val (.ref a1), .val (.ref a2), .val (.ref a3)] [(.ref a1)])
    refine own_callVU (W := 0) X0 hx hZ (y := (⟨"com/example/hedgewalk/hedgewalk/eval/Verdict$Told", "isOpen", "()Z"⟩ : MethodName)) (z := (⟨"com/example/hedgewalk/hedgewalk/eval/Verdict", "isOpen", "()Z"⟩ : MethodName)) (owner := "com/example/hedgewalk/hedgewalk/eval/Verdict") hown (own_w hw 134 rfl) (own_w hw 135 rfl) (by decide) (own_w hw 126 rfl) (own_w hw 136 rfl) (own_w hw 127 rfl) (own_w hw 42 rfl) (own_w hw 129 rfl) (by decide) (by rw [hml]; rfl) (argsL := []) pd_2 rfl (a := a1) e0 E_a1 (rm20 l Z a0 hw [] a1 aH aF w_a1 (own_m a1 O) h0 n0 Z0 S_H S_F F_a1 hz_a1) (by decide) (by decide) (Nat.le_of_eq rfl) (by decide) (by decide) (rest := []) rfl (hb hby d13_5) ?_
    intro v2 T2 L2 X2 hQ2
    obtain ⟨rfl, N2q, e2⟩ := hQ2
    have N2 := Fr.app N0 N2q
    show own_Go p e below _ T2 (mkF m 8 #[.val (.int (2 : Int32)), .val (.ref a1), .val (.ref a2), .val (.ref a3)] [(.int (own_m a1 O))])
    refine own_if X2 hx 35 (hb hby d13_8) (by decide) (by decide) (fun (hc8 : ¬ (own_m a1 O) = (0 : Int32)) => ?_) (fun (hc8 : (own_m a1 O) = (0 : Int32)) => ?_)
    · show own_Go p e below _ T2 (mkF m 35 #[.val (.int (2 : Int32)), .val (.ref a1), .val (.ref a2), .val (.ref a3)] [])
      refine own_by (fun t_ k_ => XS.iconst X2.here hx rfl (hb hby d13_35) k_) ?_
      show own_Go p e below _ T2 (mkF m 36 #[.val (.int (2 : Int32)), .val (.ref a1), .val (.ref a2), .val (.ref a3)] [(.int (1 : Int32))])
      refine own_by (fun t_ k_ => XS.goto X2.here hx rfl (pc0 := 36) (pc' := 40) rfl (hb hby d13_36) (by decide) (by decide) k_) ?_
      show own_Go p e below _ T2 (mkF m 40 #[.val (.int (2 : Int32)), .val (.ref a1), .val (.ref a2), .val (.ref a3)] [(.int (1 : Int32))])
      refine own_retZ X2 hx hlk Bd.returns (by decide) (hb hby d13_40) e2 (by decide) (by decide) ?_
      exact ⟨by rw [own_hm (own_m1 hc8)], N2, rfl⟩
    · show own_Go p e below _ T2 (mkF m 11 #[.val (.int (2 : Int32)), .val (.ref a1), .val (.ref a2), .val (.ref a3)] [])
      refine own_by (fun t_ k_ => XS.iloadN X2.here hx rfl (hb hby d13_11) rfl k_) ?_
      show own_Go p e below _ T2 (mkF m 12 #[.val (.int (2 : Int32)), .val (.ref a1), .val (.ref a2), .val (.ref a3)] [(.int (2 : Int32))])
      refine own_by (fun t_ k_ => XS.iconst X2.here hx rfl (hb hby d13_12) k_) ?_
      show own_Go p e below _ T2 (mkF m 13 #[.val (.int (2 : Int32)), .val (.ref a1), .val (.ref a2), .val (.ref a3)] [(.int (1 : Int32)), (.int (2 : Int32))])
      refine own_icmp X2 hx 23 (hb hby d13_13) (by decide) (by decide) (fun hc => absurd (show (1 : Int32) < (2 : Int32) from by decide) (by first | exact hc | exact not_not_intro hc)) (fun _ => ?_)
      show own_Go p e below _ T2 (mkF m 16 #[.val (.int (2 : Int32)), .val (.ref a1), .val (.ref a2), .val (.ref a3)] [])
      refine own_by (fun t_ k_ => XS.aloadN X2.here hx rfl (hb hby d13_16) rfl rfl k_) ?_
      show own_Go p e below _ T2 (mkF m 17 #[.val (.int (2 : Int32)), .val (.ref a1), .val (.ref a2), .val (.ref a3)] [(.ref a2)])
      refine own_callVU (W := 0) X2 hx hZ (y := (⟨"com/example/hedgewalk/hedgewalk/eval/Verdict$Told", "isOpen", "()Z"⟩ : MethodName)) (z := (⟨"com/example/hedgewalk/hedgewalk/eval/Verdict", "isOpen", "()Z"⟩ : MethodName)) (owner := "com/example/hedgewalk/hedgewalk/eval/Verdict") hown (own_w hw 134 rfl) (own_w hw 135 rfl) (by decide) (own_w hw 126 rfl) (own_w hw 136 rfl) (own_w hw 127 rfl) (own_w hw 42 rfl) (own_w hw 129 rfl) (by decide) (by rw [hml]; rfl) (argsL := []) pd_2 rfl (a := a2) e2 E_a2 (rm20 l Z a0 hw [] a2 aH aF w_a2 (own_m a2 O) h0 n0 Z0 S_H S_F F_a2 hz_a2) (by decide) (by decide) (Nat.le_of_eq rfl) (by decide) (by decide) (rest := []) rfl (hb hby d13_17) ?_
      intro v3 T3 L3 X3 hQ3
      obtain ⟨rfl, N3q, e3⟩ := hQ3
      have N3 := Fr.app N2 N3q
      show own_Go p e below _ T3 (mkF m 20 #[.val (.int (2 : Int32)), .val (.ref a1), .val (.ref a2), .val (.ref a3)] [(.int (own_m a2 O))])
      refine own_if X3 hx 35 (hb hby d13_20) (by decide) (by decide) (fun (hc20 : ¬ (own_m a2 O) = (0 : Int32)) => ?_) (fun (hc20 : (own_m a2 O) = (0 : Int32)) => ?_)
      · show own_Go p e below _ T3 (mkF m 35 #[.val (.int (2 : Int32)), .val (.ref a1), .val (.ref a2), .val (.ref a3)] [])
        refine own_by (fun t_ k_ => XS.iconst X3.here hx rfl (hb hby d13_35) k_) ?_
        show own_Go p e below _ T3 (mkF m 36 #[.val (.int (2 : Int32)), .val (.ref a1), .val (.ref a2), .val (.ref a3)] [(.int (1 : Int32))])
        refine own_by (fun t_ k_ => XS.goto X3.here hx rfl (pc0 := 36) (pc' := 40) rfl (hb hby d13_36) (by decide) (by decide) k_) ?_
        show own_Go p e below _ T3 (mkF m 40 #[.val (.int (2 : Int32)), .val (.ref a1), .val (.ref a2), .val (.ref a3)] [(.int (1 : Int32))])
        refine own_retZ X3 hx hlk Bd.returns (by decide) (hb hby d13_40) e3 (by decide) (by decide) ?_
        exact ⟨by rw [own_hm (own_m1 hc20)], N3, rfl⟩
      · show own_Go p e below _ T3 (mkF m 23 #[.val (.int (2 : Int32)), .val (.ref a1), .val (.ref a2), .val (.ref a3)] [])
        refine own_by (fun t_ k_ => XS.iloadN X3.here hx rfl (hb hby d13_23) rfl k_) ?_
        show own_Go p e below _ T3 (mkF m 24 #[.val (.int (2 : Int32)), .val (.ref a1), .val (.ref a2), .val (.ref a3)] [(.int (2 : Int32))])
        refine own_by (fun t_ k_ => XS.iconst X3.here hx rfl (hb hby d13_24) k_) ?_
        show own_Go p e below _ T3 (mkF m 25 #[.val (.int (2 : Int32)), .val (.ref a1), .val (.ref a2), .val (.ref a3)] [(.int (2 : Int32)), (.int (2 : Int32))])
        refine own_icmp X3 hx 39 (hb hby d13_25) (by decide) (by decide) (fun _ => ?_) (fun hc => absurd (show ¬ (2 : Int32) < (2 : Int32) from by decide) (by first | exact hc | exact not_not_intro hc))
        show own_Go p e below _ T3 (mkF m 39 #[.val (.int (2 : Int32)), .val (.ref a1), .val (.ref a2), .val (.ref a3)] [])
        refine own_by (fun t_ k_ => XS.iconst X3.here hx rfl (hb hby d13_39) k_) ?_
        show own_Go p e below _ T3 (mkF m 40 #[.val (.int (2 : Int32)), .val (.ref a1), .val (.ref a2), .val (.ref a3)] [(.int (0 : Int32))])
        refine own_retZ X3 hx hlk Bd.returns (by decide) (hb hby d13_40) e3 (by decide) (by decide) ?_
        exact ⟨by rw [own_hn hO (by intro x hx; simp only [List.mem_cons, List.not_mem_nil, or_false] at hx; rcases hx with rfl | rfl <;> first | exact own_m0 hc8 | exact own_m0 hc20)], N3, rfl⟩
  · have hD2 := hO
    have E_a1 := (HD a1 (hDA a1 (by simp))).1.1
    obtain ⟨w_a1, F_a1, hz_a1⟩ := (HD a1 (hDA a1 (by simp))).1.open (hDU a1 (by simp))
    have E_a2 := (HD a2 (hDA a2 (by simp))).1.1
    obtain ⟨w_a2, F_a2, hz_a2⟩ := (HD a2 (hDA a2 (by simp))).1.open (hDU a2 (by simp))
    have E_a3 := (HD a3 (hDA a3 (by simp))).1.1
    obtain ⟨w_a3, F_a3, hz_a3⟩ := (HD a3 (hDA a3 (by simp))).1.open (hDU a3 (by simp))
    show own_Go p e below _ s₁ (mkF m 0 #[.val (.int (3 : Int32)), .val (.ref a1), .val (.ref a2), .val (.ref a3)] [])
    refine own_by (fun t_ k_ => XS.iloadN X0.here hx rfl (hb hby d13_0) rfl k_) ?_
    show own_Go p e below _ s₁ (mkF m 1 #[.val (.int (3 : Int32)), .val (.ref a1), .val (.ref a2), .val (.ref a3)] [(.int (3 : Int32))])
    refine own_if X0 hx 11 (hb hby d13_1) (by decide) (by decide) (fun hc => absurd (show (0 : Int32) < (3 : Int32) from by decide) (by first | exact hc | exact not_not_intro hc)) (fun _ => ?_)
    show own_Go p e below _ s₁ (mkF m 4 #[.val (.int (3 : Int32)), .val (.ref a1), .val (.ref a2), .val (.ref a3)] [])
    refine own_by (fun t_ k_ => XS.aloadN X0.here hx rfl (hb hby d13_4) rfl rfl k_) ?_
    show own_Go p e below _ s₁ (mkF m 5 #[.val (.int (3 : Int32)), .val (.ref a1), .val (.ref a2), .val (.ref a3)] [(.ref a1)])
    refine own_callVU (W := 0) X0 hx hZ (y := (⟨"com/example/hedgewalk/hedgewalk/eval/Verdict$Told", "isOpen", "()Z"⟩ : MethodName)) (z := (⟨"com/example/hedgewalk/hedgewalk/eval/Verdict", "isOpen", "()Z"⟩ : MethodName)) (owner := "com/example/hedgewalk/hedgewalk/eval/Verdict") hown (own_w hw 134 rfl) (own_w hw 135 rfl) (by decide) (own_w hw 126 rfl) (own_w hw 136 rfl) (own_w hw 127 rfl) (own_w hw 42 rfl) (own_w hw 129 rfl) (by decide) (by rw [hml]; rfl) (argsL := []) pd_2 rfl (a := a1) e0 E_a1 (rm20 l Z a0 hw [] a1 aH aF w_a1 (own_m a1 O) h0 n0 Z0 S_H S_F F_a1 hz_a1) (by decide) (by decide) (Nat.le_of_eq rfl) (by decide) (by decide) (rest := []) rfl (hb hby d13_5) ?_
    intro v4 T4 L4 X4 hQ4
    obtain ⟨rfl, N4q, e4⟩ := hQ4
    have N4 := Fr.app N0 N4q
    show own_Go p e below _ T4 (mkF m 8 #[.val (.int (3 : Int32)), .val (.ref a1), .val (.ref a2), .val (.ref a3)] [(.int (own_m a1 O))])
    refine own_if X4 hx 35 (hb hby d13_8) (by decide) (by decide) (fun (hc8 : ¬ (own_m a1 O) = (0 : Int32)) => ?_) (fun (hc8 : (own_m a1 O) = (0 : Int32)) => ?_)
    · show own_Go p e below _ T4 (mkF m 35 #[.val (.int (3 : Int32)), .val (.ref a1), .val (.ref a2), .val (.ref a3)] [])
      refine own_by (fun t_ k_ => XS.iconst X4.here hx rfl (hb hby d13_35) k_) ?_
      show own_Go p e below _ T4 (mkF m 36 #[.val (.int (3 : Int32)), .val (.ref a1), .val (.ref a2), .val (.ref a3)] [(.int (1 : Int32))])
      refine own_by (fun t_ k_ => XS.goto X4.here hx rfl (pc0 := 36) (pc' := 40) rfl (hb hby d13_36) (by decide) (by decide) k_) ?_
      show own_Go p e below _ T4 (mkF m 40 #[.val (.int (3 : Int32)), .val (.ref a1), .val (.ref a2), .val (.ref a3)] [(.int (1 : Int32))])
      refine own_retZ X4 hx hlk Bd.returns (by decide) (hb hby d13_40) e4 (by decide) (by decide) ?_
      exact ⟨by rw [own_hm (own_m1 hc8)], N4, rfl⟩
    · show own_Go p e below _ T4 (mkF m 11 #[.val (.int (3 : Int32)), .val (.ref a1), .val (.ref a2), .val (.ref a3)] [])
      refine own_by (fun t_ k_ => XS.iloadN X4.here hx rfl (hb hby d13_11) rfl k_) ?_
      show own_Go p e below _ T4 (mkF m 12 #[.val (.int (3 : Int32)), .val (.ref a1), .val (.ref a2), .val (.ref a3)] [(.int (3 : Int32))])
      refine own_by (fun t_ k_ => XS.iconst X4.here hx rfl (hb hby d13_12) k_) ?_
      show own_Go p e below _ T4 (mkF m 13 #[.val (.int (3 : Int32)), .val (.ref a1), .val (.ref a2), .val (.ref a3)] [(.int (1 : Int32)), (.int (3 : Int32))])
      refine own_icmp X4 hx 23 (hb hby d13_13) (by decide) (by decide) (fun hc => absurd (show (1 : Int32) < (3 : Int32) from by decide) (by first | exact hc | exact not_not_intro hc)) (fun _ => ?_)
      show own_Go p e below _ T4 (mkF m 16 #[.val (.int (3 : Int32)), .val (.ref a1), .val (.ref a2), .val (.ref a3)] [])
      refine own_by (fun t_ k_ => XS.aloadN X4.here hx rfl (hb hby d13_16) rfl rfl k_) ?_
      show own_Go p e below _ T4 (mkF m 17 #[.val (.int (3 : Int32)), .val (.ref a1), .val (.ref a2), .val (.ref a3)] [(.ref a2)])
      refine own_callVU (W := 0) X4 hx hZ (y := (⟨"com/example/hedgewalk/hedgewalk/eval/Verdict$Told", "isOpen", "()Z"⟩ : MethodName)) (z := (⟨"com/example/hedgewalk/hedgewalk/eval/Verdict", "isOpen", "()Z"⟩ : MethodName)) (owner := "com/example/hedgewalk/hedgewalk/eval/Verdict") hown (own_w hw 134 rfl) (own_w hw 135 rfl) (by decide) (own_w hw 126 rfl) (own_w hw 136 rfl) (own_w hw 127 rfl) (own_w hw 42 rfl) (own_w hw 129 rfl) (by decide) (by rw [hml]; rfl) (argsL := []) pd_2 rfl (a := a2) e4 E_a2 (rm20 l Z a0 hw [] a2 aH aF w_a2 (own_m a2 O) h0 n0 Z0 S_H S_F F_a2 hz_a2) (by decide) (by decide) (Nat.le_of_eq rfl) (by decide) (by decide) (rest := []) rfl (hb hby d13_17) ?_
      intro v5 T5 L5 X5 hQ5
      obtain ⟨rfl, N5q, e5⟩ := hQ5
      have N5 := Fr.app N4 N5q
      show own_Go p e below _ T5 (mkF m 20 #[.val (.int (3 : Int32)), .val (.ref a1), .val (.ref a2), .val (.ref a3)] [(.int (own_m a2 O))])
      refine own_if X5 hx 35 (hb hby d13_20) (by decide) (by decide) (fun (hc20 : ¬ (own_m a2 O) = (0 : Int32)) => ?_) (fun (hc20 : (own_m a2 O) = (0 : Int32)) => ?_)
      · show own_Go p e below _ T5 (mkF m 35 #[.val (.int (3 : Int32)), .val (.ref a1), .val (.ref a2), .val (.ref a3)] [])
        refine own_by (fun t_ k_ => XS.iconst X5.here hx rfl (hb hby d13_35) k_) ?_
        show own_Go p e below _ T5 (mkF m 36 #[.val (.int (3 : Int32)), .val (.ref a1), .val (.ref a2), .val (.ref a3)] [(.int (1 : Int32))])
        refine own_by (fun t_ k_ => XS.goto X5.here hx rfl (pc0 := 36) (pc' := 40) rfl (hb hby d13_36) (by decide) (by decide) k_) ?_
        show own_Go p e below _ T5 (mkF m 40 #[.val (.int (3 : Int32)), .val (.ref a1), .val (.ref a2), .val (.ref a3)] [(.int (1 : Int32))])
        refine own_retZ X5 hx hlk Bd.returns (by decide) (hb hby d13_40) e5 (by decide) (by decide) ?_
        exact ⟨by rw [own_hm (own_m1 hc20)], N5, rfl⟩
      · show own_Go p e below _ T5 (mkF m 23 #[.val (.int (3 : Int32)), .val (.ref a1), .val (.ref a2), .val (.ref a3)] [])
        refine own_by (fun t_ k_ => XS.iloadN X5.here hx rfl (hb hby d13_23) rfl k_) ?_
        show own_Go p e below _ T5 (mkF m 24 #[.val (.int (3 : Int32)), .val (.ref a1), .val (.ref a2), .val (.ref a3)] [(.int (3 : Int32))])
        refine own_by (fun t_ k_ => XS.iconst X5.here hx rfl (hb hby d13_24) k_) ?_
        show own_Go p e below _ T5 (mkF m 25 #[.val (.int (3 : Int32)), .val (.ref a1), .val (.ref a2), .val (.ref a3)] [(.int (2 : Int32)), (.int (3 : Int32))])
        refine own_icmp X5 hx 39 (hb hby d13_25) (by decide) (by decide) (fun hc => absurd (show (2 : Int32) < (3 : Int32) from by decide) (by first | exact hc | exact not_not_intro hc)) (fun _ => ?_)
        show own_Go p e below _ T5 (mkF m 28 #[.val (.int (3 : Int32)), .val (.ref a1), .val (.ref a2), .val (.ref a3)] [])
        refine own_by (fun t_ k_ => XS.aloadN X5.here hx rfl (hb hby d13_28) rfl rfl k_) ?_
        show own_Go p e below _ T5 (mkF m 29 #[.val (.int (3 : Int32)), .val (.ref a1), .val (.ref a2), .val (.ref a3)] [(.ref a3)])
        refine own_callVU (W := 0) X5 hx hZ (y := (⟨"com/example/hedgewalk/hedgewalk/eval/Verdict$Told", "isOpen", "()Z"⟩ : MethodName)) (z := (⟨"com/example/hedgewalk/hedgewalk/eval/Verdict", "isOpen", "()Z"⟩ : MethodName)) (owner := "com/example/hedgewalk/hedgewalk/eval/Verdict") hown (own_w hw 134 rfl) (own_w hw 135 rfl) (by decide) (own_w hw 126 rfl) (own_w hw 136 rfl) (own_w hw 127 rfl) (own_w hw 42 rfl) (own_w hw 129 rfl) (by decide) (by rw [hml]; rfl) (argsL := []) pd_2 rfl (a := a3) e5 E_a3 (rm20 l Z a0 hw [] a3 aH aF w_a3 (own_m a3 O) h0 n0 Z0 S_H S_F F_a3 hz_a3) (by decide) (by decide) (Nat.le_of_eq rfl) (by decide) (by decide) (rest := []) rfl (hb hby d13_29) ?_
        intro v6 T6 L6 X6 hQ6
        obtain ⟨rfl, N6q, e6⟩ := hQ6
        have N6 := Fr.app N5 N6q
        show own_Go p e below _ T6 (mkF m 32 #[.val (.int (3 : Int32)), .val (.ref a1), .val (.ref a2), .val (.ref a3)] [(.int (own_m a3 O))])
        refine own_if X6 hx 39 (hb hby d13_32) (by decide) (by decide) (fun (hc32 : (own_m a3 O) = (0 : Int32)) => ?_) (fun (hc32 : ¬ (own_m a3 O) = (0 : Int32)) => ?_)
        · show own_Go p e below _ T6 (mkF m 39 #[.val (.int (3 : Int32)), .val (.ref a1), .val (.ref a2), .val (.ref a3)] [])
          refine own_by (fun t_ k_ => XS.iconst X6.here hx rfl (hb hby d13_39) k_) ?_
          show own_Go p e below _ T6 (mkF m 40 #[.val (.int (3 : Int32)), .val (.ref a1), .val (.ref a2), .val (.ref a3)] [(.int (0 : Int32))])
          refine own_retZ X6 hx hlk Bd.returns (by decide) (hb hby d13_40) e6 (by decide) (by decide) ?_
          exact ⟨by rw [own_hn hO (by intro x hx; simp only [List.mem_cons, List.not_mem_nil, or_false] at hx; rcases hx with rfl | rfl | rfl <;> first | exact own_m0 hc8 | exact own_m0 hc20 | exact own_m0 hc32)], N6, rfl⟩
        · show own_Go p e below _ T6 (mkF m 35 #[.val (.int (3 : Int32)), .val (.ref a1), .val (.ref a2), .val (.ref a3)] [])
          refine own_by (fun t_ k_ => XS.iconst X6.here hx rfl (hb hby d13_35) k_) ?_
          show own_Go p e below _ T6 (mkF m 36 #[.val (.int (3 : Int32)), .val (.ref a1), .val (.ref a2), .val (.ref a3)] [(.int (1 : Int32))])
          refine own_by (fun t_ k_ => XS.goto X6.here hx rfl (pc0 := 36) (pc' := 40) rfl (hb hby d13_36) (by decide) (by decide) k_) ?_
          show own_Go p e below _ T6 (mkF m 40 #[.val (.int (3 : Int32)), .val (.ref a1), .val (.ref a2), .val (.ref a3)] [(.int (1 : Int32))])
          refine own_retZ X6 hx hlk Bd.returns (by decide) (hb hby d13_40) e6 (by decide) (by decide) ?_
          exact ⟨by rw [own_hm (own_m1 hc32)], N6, rfl⟩
theorem ef_0 (m : MethodId) (x1 : Int32) (y1 : Int64) (y2 : Int64) (y3 : Int64) (x2 : Int32) (x3 : Int32) : entryFrame m #[(.int x1), (.long y1), (.long y2), (.long y3), (.int x2), (.int x3)] maxLocals = mkF m 0 #[.val (.int x1), .val (.long y1), .second, .val (.long y2), .second, .val (.long y3), .second, .val (.int x2), .val (.int x3), .unset, .unset, .unset, .unset, .unset, .unset, .unset, .unset, .unset, .unset, .unset, .unset, .unset, .unset, .unset, .unset] [] := by first | (simp [entryFrame, mkF, argsToLocals, Value.category, maxLocals]; done) | rfl
set_option maxRecDepth 65536 in
set_option maxHeartbeats 40000000 in
theorem rm0 (l : Launch) (Z : State) (a0 : Array Value) (hw : ∀ d ∈ tables_1, d.before a0 Z = true) (ws : List Jvm.Cond) (x1 : Int32) (y1 : Int64) (y2 : Int64) (y3 : Int64) (x2 : Int32) (x3 : Int32) (aH : Addr) (aF : Addr) (h0 : Heap) (n0 : Nat) (Z0 : n0 ≤ h0.size) (S_H : Sta Z h0 "com/example/hedgewalk/hedgewalk/eval/Verdict" "HOLDS" "Ljava/lang/Object;" (.ref aH)) (S_F : Sta Z h0 "com/example/hedgewalk/hedgewalk/eval/Verdict" "FAILS" "Ljava/lang/Object;" (.ref aF)) :
    MetFree l x (head1 (Jvm.Cond.code x code maxLocals ret :: ws) room_1) (fun a U => a = #[(.int x1), (.long y1), (.long y2), (.long y3), (.int x2), (.int x3)] ∧ Z.Warmed39 U.vm ∧ U.heap = h0) (fun _ _ _ _ _ => True) (fun _ U o U' => ∃ v L, o = .returned v ∧ Q0 n0 v U'.heap L ∧ FrameEnd U o U' L room_1.cells room_1.slots) := by
  refine MetFree.of_bodySF (plainFor_of_name pn_0) hisR ?_
  intro p e s m args below meth c s₁ Bd hml0 hP hK
  obtain ⟨rfl, hZ, hh⟩ := hP
  have hx := Bd.exec
  have hby := Bd.bytes
  have hml : c.maxLocals = 25 := hml0
  have hown : s.vm.findClass "com/example/hedgewalk/hedgewalk/eval/GoalQueueHasOpenPinLaw" = some m.cls := findClass_of_methodNamed Bd.named
  have hnm := (name_of_methodNamed Bd.named Bd.method).1
  have hlk : meth.locks = false := BodyLoose.notSynchronized Bd
  have X0 : Stand p l e room_1 s m #[(.int x1), (.long y1), (.long y2), (.long y3), (.int x2), (.int x3)] below meth c s₁ [] 0 0 := Stand.of_body Bd
  have e0 : s₁.heap = h0 := by rw [← hh, Bd.state]; rfl
  have N0 := Fr.nil n0
  refine own_start (Q := Q0 n0) (ef_0 m x1 y1 y2 y3 x2 x3) ?_
  show own_Go p e below _ s₁ (mkF m 0 #[.val (.int x1), .val (.long y1), .second, .val (.long y2), .second, .val (.long y3), .second, .val (.int x2), .val (.int x3), .unset, .unset, .unset, .unset, .unset, .unset, .unset, .unset, .unset, .unset, .unset, .unset, .unset, .unset, .unset, .unset] [])
  refine own_by (fun t_ k_ => XS.iloadN X0.here hx rfl (hb hby at_0) rfl k_) ?_
  show own_Go p e below _ s₁ (mkF m 1 #[.val (.int x1), .val (.long y1), .second, .val (.long y2), .second, .val (.long y3), .second, .val (.int x2), .val (.int x3), .unset, .unset, .unset, .unset, .unset, .unset, .unset, .unset, .unset, .unset, .unset, .unset, .unset, .unset, .unset, .unset] [(.int x1)])
  refine own_by (fun t_ k_ => XS.iconst X0.here hx rfl (hb hby at_1) k_) ?_
  show own_Go p e below _ s₁ (mkF m 2 #[.val (.int x1), .val (.long y1), .second, .val (.long y2), .second, .val (.long y3), .second, .val (.int x2), .val (.int x3), .unset, .unset, .unset, .unset, .unset, .unset, .unset, .unset, .unset, .unset, .unset, .unset, .unset, .unset, .unset, .unset] [(.int (3 : Int32)), (.int x1)])
  refine own_by (fun t_ k_ => XS.iand X0.here hx rfl (hb hby at_2) rfl k_) ?_
  show own_Go p e below _ s₁ (mkF m 3 #[.val (.int x1), .val (.long y1), .second, .val (.long y2), .second, .val (.long y3), .second, .val (.int x2), .val (.int x3), .unset, .unset, .unset, .unset, .unset, .unset, .unset, .unset, .unset, .unset, .unset, .unset, .unset, .unset, .unset, .unset] [(.int (x1 &&& (3 : Int32)))])
  refine own_by (fun t_ k_ => XS.istore X0.here hx rfl (hb hby at_3) rfl (l' := #[.val (.int x1), .val (.long y1), .second, .val (.long y2), .second, .val (.long y3), .second, .val (.int x2), .val (.int x3), .val (.int (x1 &&& (3 : Int32))), .unset, .unset, .unset, .unset, .unset, .unset, .unset, .unset, .unset, .unset, .unset, .unset, .unset, .unset, .unset]) rfl k_) ?_
  show own_Go p e below _ s₁ (mkF m 5 #[.val (.int x1), .val (.long y1), .second, .val (.long y2), .second, .val (.long y3), .second, .val (.int x2), .val (.int x3), .val (.int (x1 &&& (3 : Int32))), .unset, .unset, .unset, .unset, .unset, .unset, .unset, .unset, .unset, .unset, .unset, .unset, .unset, .unset, .unset] [])
  generalize h_nq : (x1 &&& (3 : Int32)) = nq
  show own_Go p e below _ s₁ (mkF m 5 #[.val (.int x1), .val (.long y1), .second, .val (.long y2), .second, .val (.long y3), .second, .val (.int x2), .val (.int x3), .val (.int nq), .unset, .unset, .unset, .unset, .unset, .unset, .unset, .unset, .unset, .unset, .unset, .unset, .unset, .unset, .unset] [])
  refine own_by (fun t_ k_ => XT.lloadN X0.here hx rfl (hb hby at_5) rfl k_) ?_
  show own_Go p e below _ s₁ (mkF m 6 #[.val (.int x1), .val (.long y1), .second, .val (.long y2), .second, .val (.long y3), .second, .val (.int x2), .val (.int x3), .val (.int nq), .unset, .unset, .unset, .unset, .unset, .unset, .unset, .unset, .unset, .unset, .unset, .unset, .unset, .unset, .unset] [(.long y1)])
  refine own_by (fun t_ k_ => X0.ldc2Long hx hown (mvT hZ (own_w hw 0 rfl)) (g := (mkF m 6 #[.val (.int x1), .val (.long y1), .second, .val (.long y2), .second, .val (.long y3), .second, .val (.int x2), .val (.int x3), .val (.int nq), .unset, .unset, .unset, .unset, .unset, .unset, .unset, .unset, .unset, .unset, .unset, .unset, .unset, .unset, .unset] [(.long y1)])) rfl (hb hby at_6) _ k_) ?_
  show own_Go p e below _ s₁ (mkF m 9 #[.val (.int x1), .val (.long y1), .second, .val (.long y2), .second, .val (.long y3), .second, .val (.int x2), .val (.int x3), .val (.int nq), .unset, .unset, .unset, .unset, .unset, .unset, .unset, .unset, .unset, .unset, .unset, .unset, .unset, .unset, .unset] [(.long (7 : Int64)), (.long y1)])
  refine own_by (fun t_ k_ => XT.land X0.here hx rfl (hb hby at_9) rfl k_) ?_
  show own_Go p e below _ s₁ (mkF m 10 #[.val (.int x1), .val (.long y1), .second, .val (.long y2), .second, .val (.long y3), .second, .val (.int x2), .val (.int x3), .val (.int nq), .unset, .unset, .unset, .unset, .unset, .unset, .unset, .unset, .unset, .unset, .unset, .unset, .unset, .unset, .unset] [(.long (y1 &&& (7 : Int64)))])
  refine own_by (fun t_ k_ => X0.ldc2Long hx hown (mvT hZ (own_w hw 1 rfl)) (g := (mkF m 10 #[.val (.int x1), .val (.long y1), .second, .val (.long y2), .second, .val (.long y3), .second, .val (.int x2), .val (.int x3), .val (.int nq), .unset, .unset, .unset, .unset, .unset, .unset, .unset, .unset, .unset, .unset, .unset, .unset, .unset, .unset, .unset] [(.long (y1 &&& (7 : Int64)))])) rfl (hb hby at_10) _ k_) ?_
  show own_Go p e below _ s₁ (mkF m 13 #[.val (.int x1), .val (.long y1), .second, .val (.long y2), .second, .val (.long y3), .second, .val (.int x2), .val (.int x3), .val (.int nq), .unset, .unset, .unset, .unset, .unset, .unset, .unset, .unset, .unset, .unset, .unset, .unset, .unset, .unset, .unset] [(.long (4 : Int64)), (.long (y1 &&& (7 : Int64)))])
  refine own_by (fun t_ k_ => XT.lsub X0.here hx rfl (hb hby at_13) rfl k_) ?_
  show own_Go p e below _ s₁ (mkF m 14 #[.val (.int x1), .val (.long y1), .second, .val (.long y2), .second, .val (.long y3), .second, .val (.int x2), .val (.int x3), .val (.int nq), .unset, .unset, .unset, .unset, .unset, .unset, .unset, .unset, .unset, .unset, .unset, .unset, .unset, .unset, .unset] [(.long ((y1 &&& (7 : Int64)) - (4 : Int64)))])
  refine own_by (fun t_ k_ => XT.lstore X0.here hx rfl (hb hby at_14) rfl (l' := #[.val (.int x1), .val (.long y1), .second, .val (.long y2), .second, .val (.long y3), .second, .val (.int x2), .val (.int x3), .val (.int nq), .val (.long ((y1 &&& (7 : Int64)) - (4 : Int64))), .second, .unset, .unset, .unset, .unset, .unset, .unset, .unset, .unset, .unset, .unset, .unset, .unset, .unset]) rfl k_) ?_
  show own_Go p e below _ s₁ (mkF m 16 #[.val (.int x1), .val (.long y1), .second, .val (.long y2), .second, .val (.long y3), .second, .val (.int x2), .val (.int x3), .val (.int nq), .val (.long ((y1 &&& (7 : Int64)) - (4 : Int64))), .second, .unset, .unset, .unset, .unset, .unset, .unset, .unset, .unset, .unset, .unset, .unset, .unset, .unset] [])
  refine own_by (fun t_ k_ => XT.lload X0.here hx rfl (hb hby at_16) rfl k_) ?_
  show own_Go p e below _ s₁ (mkF m 18 #[.val (.int x1), .val (.long y1), .second, .val (.long y2), .second, .val (.long y3), .second, .val (.int x2), .val (.int x3), .val (.int nq), .val (.long ((y1 &&& (7 : Int64)) - (4 : Int64))), .second, .unset, .unset, .unset, .unset, .unset, .unset, .unset, .unset, .unset, .unset, .unset, .unset, .unset] [(.long ((y1 &&& (7 : Int64)) - (4 : Int64)))])
  refine own_by (fun t_ k_ => XT.lloadN X0.here hx rfl (hb hby at_18) rfl k_) ?_
  show own_Go p e below _ s₁ (mkF m 19 #[.val (.int x1), .val (.long y1), .second, .val (.long y2), .second, .val (.long y3), .second, .val (.int x2), .val (.int x3), .val (.int nq), .val (.long ((y1 &&& (7 : Int64)) - (4 : Int64))), .second, .unset, .unset, .unset, .unset, .unset, .unset, .unset, .unset, .unset, .unset, .unset, .unset, .unset] [(.long y1), (.long ((y1 &&& (7 : Int64)) - (4 : Int64)))])
  refine own_by (fun t_ k_ => XS.iconst X0.here hx rfl (hb hby at_19) k_) ?_
  show own_Go p e below _ s₁ (mkF m 20 #[.val (.int x1), .val (.long y1), .second, .val (.long y2), .second, .val (.long y3), .second, .val (.int x2), .val (.int x3), .val (.int nq), .val (.long ((y1 &&& (7 : Int64)) - (4 : Int64))), .second, .unset, .unset, .unset, .unset, .unset, .unset, .unset, .unset, .unset, .unset, .unset, .unset, .unset] [(.int (3 : Int32)), (.long y1), (.long ((y1 &&& (7 : Int64)) - (4 : Int64)))])
  refine own_by (fun t_ k_ => XT.lshr X0.here hx rfl (hb hby at_20) rfl k_) ?_
  show own_Go p e below _ s₁ (mkF m 21 #[.val (.int x1), .val (.long y1), .second, .val (.long y2), .second, .val (.long y3), .second, .val (.int x2), .val (.int x3), .val (.int nq), .val (.long ((y1 &&& (7 : Int64)) - (4 : Int64))), .second, .unset, .unset, .unset, .unset, .unset, .unset, .unset, .unset, .unset, .unset, .unset, .unset, .unset] [(.long (y1 >>> ((3 : Int32).toInt64 &&& 63))), (.long ((y1 &&& (7 : Int64)) - (4 : Int64)))])
  refine own_by (fun t_ k_ => X0.ldc2Long hx hown (mvT hZ (own_w hw 2 rfl)) (g := (mkF m 21 #[.val (.int x1), .val (.long y1), .second, .val (.long y2), .second, .val (.long y3), .second, .val (.int x2), .val (.int x3), .val (.int nq), .val (.long ((y1 &&& (7 : Int64)) - (4 : Int64))), .second, .unset, .unset, .unset, .unset, .unset, .unset, .unset, .unset, .unset, .unset, .unset, .unset, .unset] [(.long (y1 >>> ((3 : Int32).toInt64 &&& 63))), (.long ((y1 &&& (7 : Int64)) - (4 : Int64)))])) rfl (hb hby at_21) _ k_) ?_
  show own_Go p e below _ s₁ (mkF m 24 #[.val (.int x1), .val (.long y1), .second, .val (.long y2), .second, .val (.long y3), .second, .val (.int x2), .val (.int x3), .val (.int nq), .val (.long ((y1 &&& (7 : Int64)) - (4 : Int64))), .second, .unset, .unset, .unset, .unset, .unset, .unset, .unset, .unset, .unset, .unset, .unset, .unset, .unset] [(.long (3 : Int64)), (.long (y1 >>> ((3 : Int32).toInt64 &&& 63))), (.long ((y1 &&& (7 : Int64)) - (4 : Int64)))])
  refine own_by (fun t_ k_ => XT.land X0.here hx rfl (hb hby at_24) rfl k_) ?_
  show own_Go p e below _ s₁ (mkF m 25 #[.val (.int x1), .val (.long y1), .second, .val (.long y2), .second, .val (.long y3), .second, .val (.int x2), .val (.int x3), .val (.int nq), .val (.long ((y1 &&& (7 : Int64)) - (4 : Int64))), .second, .unset, .unset, .unset, .unset, .unset, .unset, .unset, .unset, .unset, .unset, .unset, .unset, .unset] [(.long ((y1 >>> ((3 : Int32).toInt64 &&& 63)) &&& (3 : Int64))), (.long ((y1 &&& (7 : Int64)) - (4 : Int64)))])
  refine own_by (fun t_ k_ => XT.ladd X0.here hx rfl (hb hby at_25) rfl k_) ?_
  show own_Go p e below _ s₁ (mkF m 26 #[.val (.int x1), .val (.long y1), .second, .val (.long y2), .second, .val (.long y3), .second, .val (.int x2), .val (.int x3), .val (.int nq), .val (.long ((y1 &&& (7 : Int64)) - (4 : Int64))), .second, .unset, .unset, .unset, .unset, .unset, .unset, .unset, .unset, .unset, .unset, .unset, .unset, .unset] [(.long (((y1 &&& (7 : Int64)) - (4 : Int64)) + ((y1 >>> ((3 : Int32).toInt64 &&& 63)) &&& (3 : Int64))))])
  refine own_by (fun t_ k_ => XT.lstore X0.here hx rfl (hb hby at_26) rfl (l' := #[.val (.int x1), .val (.long y1), .second, .val (.long y2), .second, .val (.long y3), .second, .val (.int x2), .val (.int x3), .val (.int nq), .val (.long ((y1 &&& (7 : Int64)) - (4 : Int64))), .second, .val (.long (((y1 &&& (7 : Int64)) - (4 : Int64)) + ((y1 >>> ((3 : Int32).toInt64 &&& 63)) &&& (3 : Int64)))), .second, .unset, .unset, .unset, .unset, .unset, .unset, .unset, .unset, .unset, .unset, .unset]) rfl k_) ?_
  show own_Go p e below _ s₁ (mkF m 28 #[.val (.int x1), .val (.long y1), .second, .val (.long y2), .second, .val (.long y3), .second, .val (.int x2), .val (.int x3), .val (.int nq), .val (.long ((y1 &&& (7 : Int64)) - (4 : Int64))), .second, .val (.long (((y1 &&& (7 : Int64)) - (4 : Int64)) + ((y1 >>> ((3 : Int32).toInt64 &&& 63)) &&& (3 : Int64)))), .second, .unset, .unset, .unset, .unset, .unset, .unset, .unset, .unset, .unset, .unset, .unset] [])
  refine own_by (fun t_ k_ => XT.lload X0.here hx rfl (hb hby at_28) rfl k_) ?_
  show own_Go p e below _ s₁ (mkF m 30 #[.val (.int x1), .val (.long y1), .second, .val (.long y2), .second, .val (.long y3), .second, .val (.int x2), .val (.int x3), .val (.int nq), .val (.long ((y1 &&& (7 : Int64)) - (4 : Int64))), .second, .val (.long (((y1 &&& (7 : Int64)) - (4 : Int64)) + ((y1 >>> ((3 : Int32).toInt64 &&& 63)) &&& (3 : Int64)))), .second, .unset, .unset, .unset, .unset, .unset, .unset, .unset, .unset, .unset, .unset, .unset] [(.long (((y1 &&& (7 : Int64)) - (4 : Int64)) + ((y1 >>> ((3 : Int32).toInt64 &&& 63)) &&& (3 : Int64))))])
  refine own_by (fun t_ k_ => XT.lloadN X0.here hx rfl (hb hby at_30) rfl k_) ?_
  show own_Go p e below _ s₁ (mkF m 31 #[.val (.int x1), .val (.long y1), .second, .val (.long y2), .second, .val (.long y3), .second, .val (.int x2), .val (.int x3), .val (.int nq), .val (.long ((y1 &&& (7 : Int64)) - (4 : Int64))), .second, .val (.long (((y1 &&& (7 : Int64)) - (4 : Int64)) + ((y1 >>> ((3 : Int32).toInt64 &&& 63)) &&& (3 : Int64)))), .second, .unset, .unset, .unset, .unset, .unset, .unset, .unset, .unset, .unset, .unset, .unset] [(.long y1), (.long (((y1 &&& (7 : Int64)) - (4 : Int64)) + ((y1 >>> ((3 : Int32).toInt64 &&& 63)) &&& (3 : Int64))))])
  refine own_by (fun t_ k_ => XS.iconst X0.here hx rfl (hb hby at_31) k_) ?_
  show own_Go p e below _ s₁ (mkF m 32 #[.val (.int x1), .val (.long y1), .second, .val (.long y2), .second, .val (.long y3), .second, .val (.int x2), .val (.int x3), .val (.int nq), .val (.long ((y1 &&& (7 : Int64)) - (4 : Int64))), .second, .val (.long (((y1 &&& (7 : Int64)) - (4 : Int64)) + ((y1 >>> ((3 : Int32).toInt64 &&& 63)) &&& (3 : Int64)))), .second, .unset, .unset, .unset, .unset, .unset, .unset, .unset, .unset, .unset, .unset, .unset] [(.int (5 : Int32)), (.long y1), (.long (((y1 &&& (7 : Int64)) - (4 : Int64)) + ((y1 >>> ((3 : Int32).toInt64 &&& 63)) &&& (3 : Int64))))])
  refine own_by (fun t_ k_ => XT.lshr X0.here hx rfl (hb hby at_32) rfl k_) ?_
  show own_Go p e below _ s₁ (mkF m 33 #[.val (.int x1), .val (.long y1), .second, .val (.long y2), .second, .val (.long y3), .second, .val (.int x2), .val (.int x3), .val (.int nq), .val (.long ((y1 &&& (7 : Int64)) - (4 : Int64))), .second, .val (.long (((y1 &&& (7 : Int64)) - (4 : Int64)) + ((y1 >>> ((3 : Int32).toInt64 &&& 63)) &&& (3 : Int64)))), .second, .unset, .unset, .unset, .unset, .unset, .unset, .unset, .unset, .unset, .unset, .unset] [(.long (y1 >>> ((5 : Int32).toInt64 &&& 63))), (.long (((y1 &&& (7 : Int64)) - (4 : Int64)) + ((y1 >>> ((3 : Int32).toInt64 &&& 63)) &&& (3 : Int64))))])
  refine own_by (fun t_ k_ => X0.ldc2Long hx hown (mvT hZ (own_w hw 2 rfl)) (g := (mkF m 33 #[.val (.int x1), .val (.long y1), .second, .val (.long y2), .second, .val (.long y3), .second, .val (.int x2), .val (.int x3), .val (.int nq), .val (.long ((y1 &&& (7 : Int64)) - (4 : Int64))), .second, .val (.long (((y1 &&& (7 : Int64)) - (4 : Int64)) + ((y1 >>> ((3 : Int32).toInt64 &&& 63)) &&& (3 : Int64)))), .second, .unset, .unset, .unset, .unset, .unset, .unset, .unset, .unset, .unset, .unset, .unset] [(.long (y1 >>> ((5 : Int32).toInt64 &&& 63))), (.long (((y1 &&& (7 : Int64)) - (4 : Int64)) + ((y1 >>> ((3 : Int32).toInt64 &&& 63)) &&& (3 : Int64))))])) rfl (hb hby at_33) _ k_) ?_
  show own_Go p e below _ s₁ (mkF m 36 #[.val (.int x1), .val (.long y1), .second, .val (.long y2), .second, .val (.long y3), .second, .val (.int x2), .val (.int x3), .val (.int nq), .val (.long ((y1 &&& (7 : Int64)) - (4 : Int64))), .second, .val (.long (((y1 &&& (7 : Int64)) - (4 : Int64)) + ((y1 >>> ((3 : Int32).toInt64 &&& 63)) &&& (3 : Int64)))), .second, .unset, .unset, .unset, .unset, .unset, .unset, .unset, .unset, .unset, .unset, .unset] [(.long (3 : Int64)), (.long (y1 >>> ((5 : Int32).toInt64 &&& 63))), (.long (((y1 &&& (7 : Int64)) - (4 : Int64)) + ((y1 >>> ((3 : Int32).toInt64 &&& 63)) &&& (3 : Int64))))])
  refine own_by (fun t_ k_ => XT.land X0.here hx rfl (hb hby at_36) rfl k_) ?_
  show own_Go p e below _ s₁ (mkF m 37 #[.val (.int x1), .val (.long y1), .second, .val (.long y2), .second, .val (.long y3), .second, .val (.int x2), .val (.int x3), .val (.int nq), .val (.long ((y1 &&& (7 : Int64)) - (4 : Int64))), .second, .val (.long (((y1 &&& (7 : Int64)) - (4 : Int64)) + ((y1 >>> ((3 : Int32).toInt64 &&& 63)) &&& (3 : Int64)))), .second, .unset, .unset, .unset, .unset, .unset, .unset, .unset, .unset, .unset, .unset, .unset] [(.long ((y1 >>> ((5 : Int32).toInt64 &&& 63)) &&& (3 : Int64))), (.long (((y1 &&& (7 : Int64)) - (4 : Int64)) + ((y1 >>> ((3 : Int32).toInt64 &&& 63)) &&& (3 : Int64))))])
  refine own_by (fun t_ k_ => XT.ladd X0.here hx rfl (hb hby at_37) rfl k_) ?_
  show own_Go p e below _ s₁ (mkF m 38 #[.val (.int x1), .val (.long y1), .second, .val (.long y2), .second, .val (.long y3), .second, .val (.int x2), .val (.int x3), .val (.int nq), .val (.long ((y1 &&& (7 : Int64)) - (4 : Int64))), .second, .val (.long (((y1 &&& (7 : Int64)) - (4 : Int64)) + ((y1 >>> ((3 : Int32).toInt64 &&& 63)) &&& (3 : Int64)))), .second, .unset, .unset, .unset, .unset, .unset, .unset, .unset, .unset, .unset, .unset, .unset] [(.long ((((y1 &&& (7 : Int64)) - (4 : Int64)) + ((y1 >>> ((3 : Int32).toInt64 &&& 63)) &&& (3 : Int64))) + ((y1 >>> ((5 : Int32).toInt64 &&& 63)) &&& (3 : Int64))))])
  refine own_by (fun t_ k_ => XT.lstore X0.here hx rfl (hb hby at_38) rfl (l' := #[.val (.int x1), .val (.long y1), .second, .val (.long y2), .second, .val (.long y3), .second, .val (.int x2), .val (.int x3), .val (.int nq), .val (.long ((y1 &&& (7 : Int64)) - (4 : Int64))), .second, .val (.long (((y1 &&& (7 : Int64)) - (4 : Int64)) + ((y1 >>> ((3 : Int32).toInt64 &&& 63)) &&& (3 : Int64)))), .second, .val (.long ((((y1 &&& (7 : Int64)) - (4 : Int64)) + ((y1 >>> ((3 : Int32).toInt64 &&& 63)) &&& (3 : Int64))) + ((y1 >>> ((5 : Int32).toInt64 &&& 63)) &&& (3 : Int64)))), .second, .unset, .unset, .unset, .unset, .unset, .unset, .unset, .unset, .unset]) rfl k_) ?_
  show own_Go p e below _ s₁ (mkF m 40 #[.val (.int x1), .val (.long y1), .second, .val (.long y2), .second, .val (.long y3), .second, .val (.int x2), .val (.int x3), .val (.int nq), .val (.long ((y1 &&& (7 : Int64)) - (4 : Int64))), .second, .val (.long (((y1 &&& (7 : Int64)) - (4 : Int64)) + ((y1 >>> ((3 : Int32).toInt64 &&& 63)) &&& (3 : Int64)))), .second, .val (.long ((((y1 &&& (7 : Int64)) - (4 : Int64)) + ((y1 >>> ((3 : Int32).toInt64 &&& 63)) &&& (3 : Int64))) + ((y1 >>> ((5 : Int32).toInt64 &&& 63)) &&& (3 : Int64)))), .second, .unset, .unset, .unset, .unset, .unset, .unset, .unset, .unset, .unset] [])
  refine own_by (fun t_ k_ => XS.iload X0.here hx rfl (hb hby at_40) rfl k_) ?_
  show own_Go p e below _ s₁ (mkF m 42 #[.val (.int x1), .val (.long y1), .second, .val (.long y2), .second, .val (.long y3), .second, .val (.int x2), .val (.int x3), .val (.int nq), .val (.long ((y1 &&& (7 : Int64)) - (4 : Int64))), .second, .val (.long (((y1 &&& (7 : Int64)) - (4 : Int64)) + ((y1 >>> ((3 : Int32).toInt64 &&& 63)) &&& (3 : Int64)))), .second, .val (.long ((((y1 &&& (7 : Int64)) - (4 : Int64)) + ((y1 >>> ((3 : Int32).toInt64 &&& 63)) &&& (3 : Int64))) + ((y1 >>> ((5 : Int32).toInt64 &&& 63)) &&& (3 : Int64)))), .second, .unset, .unset, .unset, .unset, .unset, .unset, .unset, .unset, .unset] [(.int x2)])
  refine own_by (fun t_ k_ => XS.iload X0.here hx rfl (hb hby at_42) rfl k_) ?_
  show own_Go p e below _ s₁ (mkF m 44 #[.val (.int x1), .val (.long y1), .second, .val (.long y2), .second, .val (.long y3), .second, .val (.int x2), .val (.int x3), .val (.int nq), .val (.long ((y1 &&& (7 : Int64)) - (4 : Int64))), .second, .val (.long (((y1 &&& (7 : Int64)) - (4 : Int64)) + ((y1 >>> ((3 : Int32).toInt64 &&& 63)) &&& (3 : Int64)))), .second, .val (.long ((((y1 &&& (7 : Int64)) - (4 : Int64)) + ((y1 >>> ((3 : Int32).toInt64 &&& 63)) &&& (3 : Int64))) + ((y1 >>> ((5 : Int32).toInt64 &&& 63)) &&& (3 : Int64)))), .second, .unset, .unset, .unset, .unset, .unset, .unset, .unset, .unset, .unset] [(.int x3), (.int x2)])
  refine own_by (fun t_ k_ => XS.iconst X0.here hx rfl (hb hby at_44) k_) ?_
  show own_Go p e below _ s₁ (mkF m 45 #[.val (.int x1), .val (.long y1), .second, .val (.long y2), .second, .val (.long y3), .second, .val (.int x2), .val (.int x3), .val (.int nq), .val (.long ((y1 &&& (7 : Int64)) - (4 : Int64))), .second, .val (.long (((y1 &&& (7 : Int64)) - (4 : Int64)) + ((y1 >>> ((3 : Int32).toInt64 &&& 63)) &&& (3 : Int64)))), .second, .val (.long ((((y1 &&& (7 : Int64)) - (4 : Int64)) + ((y1 >>> ((3 : Int32).toInt64 &&& 63)) &&& (3 : Int64))) + ((y1 >>> ((5 : Int32).toInt64 &&& 63)) &&& (3 : Int64)))), .second, .unset, .unset, .unset, .unset, .unset, .unset, .unset, .unset, .unset] [(.int (1 : Int32)), (.int x3), (.int x2)])
  refine own_by (fun t_ k_ => XS.iand X0.here hx rfl (hb hby at_45) rfl k_) ?_
  show own_Go p e below _ s₁ (mkF m 46 #[.val (.int x1), .val (.long y1), .second, .val (.long y2), .second, .val (.long y3), .second, .val (.int x2), .val (.int x3), .val (.int nq), .val (.long ((y1 &&& (7 : Int64)) - (4 : Int64))), .second, .val (.long (((y1 &&& (7 : Int64)) - (4 : Int64)) + ((y1 >>> ((3 : Int32).toInt64 &&& 63)) &&& (3 : Int64)))), .second, .val (.long ((((y1 &&& (7 : Int64)) - (4 : Int64)) + ((y1 >>> ((3 : Int32).toInt64 &&& 63)) &&& (3 : Int64))) + ((y1 >>> ((5 : Int32).toInt64 &&& 63)) &&& (3 : Int64)))), .second, .unset, .unset, .unset, .unset, .unset, .unset, .unset, .unset, .unset] [(.int (x3 &&& (1 : Int32))), (.int x2)])
  refine own_by (fun t_ k_ => XS.iadd X0.here hx rfl (hb hby at_46) rfl k_) ?_
  show own_Go p e below _ s₁ (mkF m 47 #[.val (.int x1), .val (.long y1), .second, .val (.long y2), .second, .val (.long y3), .second, .val (.int x2), .val (.int x3), .val (.int nq), .val (.long ((y1 &&& (7 : Int64)) - (4 : Int64))), .second, .val (.long (((y1 &&& (7 : Int64)) - (4 : Int64)) + ((y1 >>> ((3 : Int32).toInt64 &&& 63)) &&& (3 : Int64)))), .second, .val (.long ((((y1 &&& (7 : Int64)) - (4 : Int64)) + ((y1 >>> ((3 : Int32).toInt64 &&& 63)) &&& (3 : Int64))) + ((y1 >>> ((5 : Int32).toInt64 &&& 63)) &&& (3 : Int64)))), .second, .unset, .unset, .unset, .unset, .unset, .unset, .unset, .unset, .unset] [(.int (x2 + (x3 &&& (1 : Int32))))])
  refine own_by (fun t_ k_ => XS.istore X0.here hx rfl (hb hby at_47) rfl (l' := #[.val (.int x1), .val (.long y1), .second, .val (.long y2), .second, .val (.long y3), .second, .val (.int x2), .val (.int x3), .val (.int nq), .val (.long ((y1 &&& (7 : Int64)) - (4 : Int64))), .second, .val (.long (((y1 &&& (7 : Int64)) - (4 : Int64)) + ((y1 >>> ((3 : Int32).toInt64 &&& 63)) &&& (3 : Int64)))), .second, .val (.long ((((y1 &&& (7 : Int64)) - (4 : Int64)) + ((y1 >>> ((3 : Int32).toInt64 &&& 63)) &&& (3 : Int64))) + ((y1 >>> ((5 : Int32).toInt64 &&& 63)) &&& (3 : Int64)))), .second, .val (.int (x2 + (x3 &&& (1 : Int32)))), .unset, .unset, .unset, .unset, .unset, .unset, .unset, .unset]) rfl k_) ?_
  show own_Go p e below _ s₁ (mkF m 49 #[.val (.int x1), .val (.long y1), .second, .val (.long y2), .second, .val (.long y3), .second, .val (.int x2), .val (.int x3), .val (.int nq), .val (.long ((y1 &&& (7 : Int64)) - (4 : Int64))), .second, .val (.long (((y1 &&& (7 : Int64)) - (4 : Int64)) + ((y1 >>> ((3 : Int32).toInt64 &&& 63)) &&& (3 : Int64)))), .second, .val (.long ((((y1 &&& (7 : Int64)) - (4 : Int64)) + ((y1 >>> ((3 : Int32).toInt64 &&& 63)) &&& (3 : Int64))) + ((y1 >>> ((5 : Int32).toInt64 &&& 63)) &&& (3 : Int64)))), .second, .val (.int (x2 + (x3 &&& (1 : Int32)))), .unset, .unset, .unset, .unset, .unset, .unset, .unset, .unset] [])
  refine own_by (fun t_ k_ => XS.iload X0.here hx rfl (hb hby at_49) rfl k_) ?_
  show own_Go p e below _ s₁ (mkF m 51 #[.val (.int x1), .val (.long y1), .second, .val (.long y2), .second, .val (.long y3), .second, .val (.int x2), .val (.int x3), .val (.int nq), .val (.long ((y1 &&& (7 : Int64)) - (4 : Int64))), .second, .val (.long (((y1 &&& (7 : Int64)) - (4 : Int64)) + ((y1 >>> ((3 : Int32).toInt64 &&& 63)) &&& (3 : Int64)))), .second, .val (.long ((((y1 &&& (7 : Int64)) - (4 : Int64)) + ((y1 >>> ((3 : Int32).toInt64 &&& 63)) &&& (3 : Int64))) + ((y1 >>> ((5 : Int32).toInt64 &&& 63)) &&& (3 : Int64)))), .second, .val (.int (x2 + (x3 &&& (1 : Int32)))), .unset, .unset, .unset, .unset, .unset, .unset, .unset, .unset] [(.int x2)])
  refine own_by (fun t_ k_ => XS.iload X0.here hx rfl (hb hby at_51) rfl k_) ?_
  show own_Go p e below _ s₁ (mkF m 53 #[.val (.int x1), .val (.long y1), .second, .val (.long y2), .second, .val (.long y3), .second, .val (.int x2), .val (.int x3), .val (.int nq), .val (.long ((y1 &&& (7 : Int64)) - (4 : Int64))), .second, .val (.long (((y1 &&& (7 : Int64)) - (4 : Int64)) + ((y1 >>> ((3 : Int32).toInt64 &&& 63)) &&& (3 : Int64)))), .second, .val (.long ((((y1 &&& (7 : Int64)) - (4 : Int64)) + ((y1 >>> ((3 : Int32).toInt64 &&& 63)) &&& (3 : Int64))) + ((y1 >>> ((5 : Int32).toInt64 &&& 63)) &&& (3 : Int64)))), .second, .val (.int (x2 + (x3 &&& (1 : Int32)))), .unset, .unset, .unset, .unset, .unset, .unset, .unset, .unset] [(.int x3), (.int x2)])
  refine own_by (fun t_ k_ => XS.iconst X0.here hx rfl (hb hby at_53) k_) ?_
  show own_Go p e below _ s₁ (mkF m 54 #[.val (.int x1), .val (.long y1), .second, .val (.long y2), .second, .val (.long y3), .second, .val (.int x2), .val (.int x3), .val (.int nq), .val (.long ((y1 &&& (7 : Int64)) - (4 : Int64))), .second, .val (.long (((y1 &&& (7 : Int64)) - (4 : Int64)) + ((y1 >>> ((3 : Int32).toInt64 &&& 63)) &&& (3 : Int64)))), .second, .val (.long ((((y1 &&& (7 : Int64)) - (4 : Int64)) + ((y1 >>> ((3 : Int32).toInt64 &&& 63)) &&& (3 : Int64))) + ((y1 >>> ((5 : Int32).toInt64 &&& 63)) &&& (3 : Int64)))), .second, .val (.int (x2 + (x3 &&& (1 : Int32)))), .unset, .unset, .unset, .unset, .unset, .unset, .unset, .unset] [(.int (1 : Int32)), (.int x3), (.int x2)])
  refine own_by (fun t_ k_ => XT.ishr X0.here hx rfl (hb hby at_54) rfl k_) ?_
  show own_Go p e below _ s₁ (mkF m 55 #[.val (.int x1), .val (.long y1), .second, .val (.long y2), .second, .val (.long y3), .second, .val (.int x2), .val (.int x3), .val (.int nq), .val (.long ((y1 &&& (7 : Int64)) - (4 : Int64))), .second, .val (.long (((y1 &&& (7 : Int64)) - (4 : Int64)) + ((y1 >>> ((3 : Int32).toInt64 &&& 63)) &&& (3 : Int64)))), .second, .val (.long ((((y1 &&& (7 : Int64)) - (4 : Int64)) + ((y1 >>> ((3 : Int32).toInt64 &&& 63)) &&& (3 : Int64))) + ((y1 >>> ((5 : Int32).toInt64 &&& 63)) &&& (3 : Int64)))), .second, .val (.int (x2 + (x3 &&& (1 : Int32)))), .unset, .unset, .unset, .unset, .unset, .unset, .unset, .unset] [(.int (x3 >>> ((1 : Int32) &&& 31))), (.int x2)])
  refine own_by (fun t_ k_ => XS.iconst X0.here hx rfl (hb hby at_55) k_) ?_
  show own_Go p e below _ s₁ (mkF m 56 #[.val (.int x1), .val (.long y1), .second, .val (.long y2), .second, .val (.long y3), .second, .val (.int x2), .val (.int x3), .val (.int nq), .val (.long ((y1 &&& (7 : Int64)) - (4 : Int64))), .second, .val (.long (((y1 &&& (7 : Int64)) - (4 : Int64)) + ((y1 >>> ((3 : Int32).toInt64 &&& 63)) &&& (3 : Int64)))), .second, .val (.long ((((y1 &&& (7 : Int64)) - (4 : Int64)) + ((y1 >>> ((3 : Int32).toInt64 &&& 63)) &&& (3 : Int64))) + ((y1 >>> ((5 : Int32).toInt64 &&& 63)) &&& (3 : Int64)))), .second, .val (.int (x2 + (x3 &&& (1 : Int32)))), .unset, .unset, .unset, .unset, .unset, .unset, .unset, .unset] [(.int (1 : Int32)), (.int (x3 >>> ((1 : Int32) &&& 31))), (.int x2)])
  refine own_by (fun t_ k_ => XS.iand X0.here hx rfl (hb hby at_56) rfl k_) ?_
  show own_Go p e below _ s₁ (mkF m 57 #[.val (.int x1), .val (.long y1), .second, .val (.long y2), .second, .val (.long y3), .second, .val (.int x2), .val (.int x3), .val (.int nq), .val (.long ((y1 &&& (7 : Int64)) - (4 : Int64))), .second, .val (.long (((y1 &&& (7 : Int64)) - (4 : Int64)) + ((y1 >>> ((3 : Int32).toInt64 &&& 63)) &&& (3 : Int64)))), .second, .val (.long ((((y1 &&& (7 : Int64)) - (4 : Int64)) + ((y1 >>> ((3 : Int32).toInt64 &&& 63)) &&& (3 : Int64))) + ((y1 >>> ((5 : Int32).toInt64 &&& 63)) &&& (3 : Int64)))), .second, .val (.int (x2 + (x3 &&& (1 : Int32)))), .unset, .unset, .unset, .unset, .unset, .unset, .unset, .unset] [(.int ((x3 >>> ((1 : Int32) &&& 31)) &&& (1 : Int32))), (.int x2)])
  refine own_by (fun t_ k_ => XS.iadd X0.here hx rfl (hb hby at_57) rfl k_) ?_
  show own_Go p e below _ s₁ (mkF m 58 #[.val (.int x1), .val (.long y1), .second, .val (.long y2), .second, .val (.long y3), .second, .val (.int x2), .val (.int x3), .val (.int nq), .val (.long ((y1 &&& (7 : Int64)) - (4 : Int64))), .second, .val (.long (((y1 &&& (7 : Int64)) - (4 : Int64)) + ((y1 >>> ((3 : Int32).toInt64 &&& 63)) &&& (3 : Int64)))), .second, .val (.long ((((y1 &&& (7 : Int64)) - (4 : Int64)) + ((y1 >>> ((3 : Int32).toInt64 &&& 63)) &&& (3 : Int64))) + ((y1 >>> ((5 : Int32).toInt64 &&& 63)) &&& (3 : Int64)))), .second, .val (.int (x2 + (x3 &&& (1 : Int32)))), .unset, .unset, .unset, .unset, .unset, .unset, .unset, .unset] [(.int (x2 + ((x3 >>> ((1 : Int32) &&& 31)) &&& (1 : Int32))))])
  refine own_by (fun t_ k_ => XS.istore X0.here hx rfl (hb hby at_58) rfl (l' := #[.val (.int x1), .val (.long y1), .second, .val (.long y2), .second, .val (.long y3), .second, .val (.int x2), .val (.int x3), .val (.int nq), .val (.long ((y1 &&& (7 : Int64)) - (4 : Int64))), .second, .val (.long (((y1 &&& (7 : Int64)) - (4 : Int64)) + ((y1 >>> ((3 : Int32).toInt64 &&& 63)) &&& (3 : Int64)))), .second, .val (.long ((((y1 &&& (7 : Int64)) - (4 : Int64)) + ((y1 >>> ((3 : Int32).toInt64 &&& 63)) &&& (3 : Int64))) + ((y1 >>> ((5 : Int32).toInt64 &&& 63)) &&& (3 : Int64)))), .second, .val (.int (x2 + (x3 &&& (1 : Int32)))), .val (.int (x2 + ((x3 >>> ((1 : Int32) &&& 31)) &&& (1 : Int32)))), .unset, .unset, .unset, .unset, .unset, .unset, .unset]) rfl k_) ?_
  show own_Go p e below _ s₁ (mkF m 60 #[.val (.int x1), .val (.long y1), .second, .val (.long y2), .second, .val (.long y3), .second, .val (.int x2), .val (.int x3), .val (.int nq), .val (.long ((y1 &&& (7 : Int64)) - (4 : Int64))), .second, .val (.long (((y1 &&& (7 : Int64)) - (4 : Int64)) + ((y1 >>> ((3 : Int32).toInt64 &&& 63)) &&& (3 : Int64)))), .second, .val (.long ((((y1 &&& (7 : Int64)) - (4 : Int64)) + ((y1 >>> ((3 : Int32).toInt64 &&& 63)) &&& (3 : Int64))) + ((y1 >>> ((5 : Int32).toInt64 &&& 63)) &&& (3 : Int64)))), .second, .val (.int (x2 + (x3 &&& (1 : Int32)))), .val (.int (x2 + ((x3 >>> ((1 : Int32) &&& 31)) &&& (1 : Int32)))), .unset, .unset, .unset, .unset, .unset, .unset, .unset] [])
  refine own_by (fun t_ k_ => XS.iload X0.here hx rfl (hb hby at_60) rfl k_) ?_
  show own_Go p e below _ s₁ (mkF m 62 #[.val (.int x1), .val (.long y1), .second, .val (.long y2), .second, .val (.long y3), .second, .val (.int x2), .val (.int x3), .val (.int nq), .val (.long ((y1 &&& (7 : Int64)) - (4 : Int64))), .second, .val (.long (((y1 &&& (7 : Int64)) - (4 : Int64)) + ((y1 >>> ((3 : Int32).toInt64 &&& 63)) &&& (3 : Int64)))), .second, .val (.long ((((y1 &&& (7 : Int64)) - (4 : Int64)) + ((y1 >>> ((3 : Int32).toInt64 &&& 63)) &&& (3 : Int64))) + ((y1 >>> ((5 : Int32).toInt64 &&& 63)) &&& (3 : Int64)))), .second, .val (.int (x2 + (x3 &&& (1 : Int32)))), .val (.int (x2 + ((x3 >>> ((1 : Int32) &&& 31)) &&& (1 : Int32)))), .unset, .unset, .unset, .unset, .unset, .unset, .unset] [(.int x2)])
  refine own_by (fun t_ k_ => XS.iload X0.here hx rfl (hb hby at_62) rfl k_) ?_
  show own_Go p e below _ s₁ (mkF m 64 #[.val (.int x1), .val (.long y1), .second, .val (.long y2), .second, .val (.long y3), .second, .val (.int x2), .val (.int x3), .val (.int nq), .val (.long ((y1 &&& (7 : Int64)) - (4 : Int64))), .second, .val (.long (((y1 &&& (7 : Int64)) - (4 : Int64)) + ((y1 >>> ((3 : Int32).toInt64 &&& 63)) &&& (3 : Int64)))), .second, .val (.long ((((y1 &&& (7 : Int64)) - (4 : Int64)) + ((y1 >>> ((3 : Int32).toInt64 &&& 63)) &&& (3 : Int64))) + ((y1 >>> ((5 : Int32).toInt64 &&& 63)) &&& (3 : Int64)))), .second, .val (.int (x2 + (x3 &&& (1 : Int32)))), .val (.int (x2 + ((x3 >>> ((1 : Int32) &&& 31)) &&& (1 : Int32)))), .unset, .unset, .unset, .unset, .unset, .unset, .unset] [(.int x3), (.int x2)])
  refine own_by (fun t_ k_ => XS.iconst X0.here hx rfl (hb hby at_64) k_) ?_
  show own_Go p e below _ s₁ (mkF m 65 #[.val (.int x1), .val (.long y1), .second, .val (.long y2), .second, .val (.long y3), .second, .val (.int x2), .val (.int x3), .val (.int nq), .val (.long ((y1 &&& (7 : Int64)) - (4 : Int64))), .second, .val (.long (((y1 &&& (7 : Int64)) - (4 : Int64)) + ((y1 >>> ((3 : Int32).toInt64 &&& 63)) &&& (3 : Int64)))), .second, .val (.long ((((y1 &&& (7 : Int64)) - (4 : Int64)) + ((y1 >>> ((3 : Int32).toInt64 &&& 63)) &&& (3 : Int64))) + ((y1 >>> ((5 : Int32).toInt64 &&& 63)) &&& (3 : Int64)))), .second, .val (.int (x2 + (x3 &&& (1 : Int32)))), .val (.int (x2 + ((x3 >>> ((1 : Int32) &&& 31)) &&& (1 : Int32)))), .unset, .unset, .unset, .unset, .unset, .unset, .unset] [(.int (2 : Int32)), (.int x3), (.int x2)])
  refine own_by (fun t_ k_ => XT.ishr X0.here hx rfl (hb hby at_65) rfl k_) ?_
  show own_Go p e below _ s₁ (mkF m 66 #[.val (.int x1), .val (.long y1), .second, .val (.long y2), .second, .val (.long y3), .second, .val (.int x2), .val (.int x3), .val (.int nq), .val (.long ((y1 &&& (7 : Int64)) - (4 : Int64))), .second, .val (.long (((y1 &&& (7 : Int64)) - (4 : Int64)) + ((y1 >>> ((3 : Int32).toInt64 &&& 63)) &&& (3 : Int64)))), .second, .val (.long ((((y1 &&& (7 : Int64)) - (4 : Int64)) + ((y1 >>> ((3 : Int32).toInt64 &&& 63)) &&& (3 : Int64))) + ((y1 >>> ((5 : Int32).toInt64 &&& 63)) &&& (3 : Int64)))), .second, .val (.int (x2 + (x3 &&& (1 : Int32)))), .val (.int (x2 + ((x3 >>> ((1 : Int32) &&& 31)) &&& (1 : Int32)))), .unset, .unset, .unset, .unset, .unset, .unset, .unset] [(.int (x3 >>> ((2 : Int32) &&& 31))), (.int x2)])
  refine own_by (fun t_ k_ => XS.iconst X0.here hx rfl (hb hby at_66) k_) ?_
  show own_Go p e below _ s₁ (mkF m 67 #[.val (.int x1), .val (.long y1), .second, .val (.long y2), .second, .val (.long y3), .second, .val (.int x2), .val (.int x3), .val (.int nq), .val (.long ((y1 &&& (7 : Int64)) - (4 : Int64))), .second, .val (.long (((y1 &&& (7 : Int64)) - (4 : Int64)) + ((y1 >>> ((3 : Int32).toInt64 &&& 63)) &&& (3 : Int64)))), .second, .val (.long ((((y1 &&& (7 : Int64)) - (4 : Int64)) + ((y1 >>> ((3 : Int32).toInt64 &&& 63)) &&& (3 : Int64))) + ((y1 >>> ((5 : Int32).toInt64 &&& 63)) &&& (3 : Int64)))), .second, .val (.int (x2 + (x3 &&& (1 : Int32)))), .val (.int (x2 + ((x3 >>> ((1 : Int32) &&& 31)) &&& (1 : Int32)))), .unset, .unset, .unset, .unset, .unset, .unset, .unset] [(.int (1 : Int32)), (.int (x3 >>> ((2 : Int32) &&& 31))), (.int x2)])
  refine own_by (fun t_ k_ => XS.iand X0.here hx rfl (hb hby at_67) rfl k_) ?_
  show own_Go p e below _ s₁ (mkF m 68 #[.val (.int x1), .val (.long y1), .second, .val (.long y2), .second, .val (.long y3), .second, .val (.int x2), .val (.int x3), .val (.int nq), .val (.long ((y1 &&& (7 : Int64)) - (4 : Int64))), .second, .val (.long (((y1 &&& (7 : Int64)) - (4 : Int64)) + ((y1 >>> ((3 : Int32).toInt64 &&& 63)) &&& (3 : Int64)))), .second, .val (.long ((((y1 &&& (7 : Int64)) - (4 : Int64)) + ((y1 >>> ((3 : Int32).toInt64 &&& 63)) &&& (3 : Int64))) + ((y1 >>> ((5 : Int32).toInt64 &&& 63)) &&& (3 : Int64)))), .second, .val (.int (x2 + (x3 &&& (1 : Int32)))), .val (.int (x2 + ((x3 >>> ((1 : Int32) &&& 31)) &&& (1 : Int32)))), .unset, .unset, .unset, .unset, .unset, .unset, .unset] [(.int ((x3 >>> ((2 : Int32) &&& 31)) &&& (1 : Int32))), (.int x2)])
  refine own_by (fun t_ k_ => XS.iadd X0.here hx rfl (hb hby at_68) rfl k_) ?_
  show own_Go p e below _ s₁ (mkF m 69 #[.val (.int x1), .val (.long y1), .second, .val (.long y2), .second, .val (.long y3), .second, .val (.int x2), .val (.int x3), .val (.int nq), .val (.long ((y1 &&& (7 : Int64)) - (4 : Int64))), .second, .val (.long (((y1 &&& (7 : Int64)) - (4 : Int64)) + ((y1 >>> ((3 : Int32).toInt64 &&& 63)) &&& (3 : Int64)))), .second, .val (.long ((((y1 &&& (7 : Int64)) - (4 : Int64)) + ((y1 >>> ((3 : Int32).toInt64 &&& 63)) &&& (3 : Int64))) + ((y1 >>> ((5 : Int32).toInt64 &&& 63)) &&& (3 : Int64)))), .second, .val (.int (x2 + (x3 &&& (1 : Int32)))), .val (.int (x2 + ((x3 >>> ((1 : Int32) &&& 31)) &&& (1 : Int32)))), .unset, .unset, .unset, .unset, .unset, .unset, .unset] [(.int (x2 + ((x3 >>> ((2 : Int32) &&& 31)) &&& (1 : Int32))))])
  refine own_by (fun t_ k_ => XS.istore X0.here hx rfl (hb hby at_69) rfl (l' := #[.val (.int x1), .val (.long y1), .second, .val (.long y2), .second, .val (.long y3), .second, .val (.int x2), .val (.int x3), .val (.int nq), .val (.long ((y1 &&& (7 : Int64)) - (4 : Int64))), .second, .val (.long (((y1 &&& (7 : Int64)) - (4 : Int64)) + ((y1 >>> ((3 : Int32).toInt64 &&& 63)) &&& (3 : Int64)))), .second, .val (.long ((((y1 &&& (7 : Int64)) - (4 : Int64)) + ((y1 >>> ((3 : Int32).toInt64 &&& 63)) &&& (3 : Int64))) + ((y1 >>> ((5 : Int32).toInt64 &&& 63)) &&& (3 : Int64)))), .second, .val (.int (x2 + (x3 &&& (1 : Int32)))), .val (.int (x2 + ((x3 >>> ((1 : Int32) &&& 31)) &&& (1 : Int32)))), .val (.int (x2 + ((x3 >>> ((2 : Int32) &&& 31)) &&& (1 : Int32)))), .unset, .unset, .unset, .unset, .unset, .unset]) rfl k_) ?_
  show own_Go p e below _ s₁ (mkF m 71 #[.val (.int x1), .val (.long y1), .second, .val (.long y2), .second, .val (.long y3), .second, .val (.int x2), .val (.int x3), .val (.int nq), .val (.long ((y1 &&& (7 : Int64)) - (4 : Int64))), .second, .val (.long (((y1 &&& (7 : Int64)) - (4 : Int64)) + ((y1 >>> ((3 : Int32).toInt64 &&& 63)) &&& (3 : Int64)))), .second, .val (.long ((((y1 &&& (7 : Int64)) - (4 : Int64)) + ((y1 >>> ((3 : Int32).toInt64 &&& 63)) &&& (3 : Int64))) + ((y1 >>> ((5 : Int32).toInt64 &&& 63)) &&& (3 : Int64)))), .second, .val (.int (x2 + (x3 &&& (1 : Int32)))), .val (.int (x2 + ((x3 >>> ((1 : Int32) &&& 31)) &&& (1 : Int32)))), .val (.int (x2 + ((x3 >>> ((2 : Int32) &&& 31)) &&& (1 : Int32)))), .unset, .unset, .unset, .unset, .unset, .unset] [])
  refine own_newO X0 hx hZ hown (own_w hw 3 rfl) (own_w hw 4 rfl) (own_w hw 5 rfl) e0 (hb hby at_71) (by decide) (by decide) ?_
  intro T1 h1 b1 X1 e1 g1 E1 A1 D1
  have g_b1 : n0 ≤ b1 := Nat.le_trans Z0 (Nat.le_of_eq g1.symm)
  have sz1 : n0 ≤ h1.size := Nat.le_trans Z0 E1.1
  have F2_0 : Fld Z h1 b1 "com/example/hedgewalk/hedgewalk/eval/Agenda" "listeners" "Ljava/util/ArrayDeque;" .null := D1 (Or.inr (own_w hw 30 rfl)) (ty := (.object "java/util/ArrayDeque")) (by decide)
  have F3_0 : Fld Z h1 b1 "com/example/hedgewalk/hedgewalk/eval/Agenda" "values" "Ljava/util/ArrayDeque;" .null := D1 (Or.inr (own_w hw 32 rfl)) (ty := (.object "java/util/ArrayDeque")) (by decide)
  show own_Go p e below _ T1 (mkF m 74 #[.val (.int x1), .val (.long y1), .second, .val (.long y2), .second, .val (.long y3), .second, .val (.int x2), .val (.int x3), .val (.int nq), .val (.long ((y1 &&& (7 : Int64)) - (4 : Int64))), .second, .val (.long (((y1 &&& (7 : Int64)) - (4 : Int64)) + ((y1 >>> ((3 : Int32).toInt64 &&& 63)) &&& (3 : Int64)))), .second, .val (.long ((((y1 &&& (7 : Int64)) - (4 : Int64)) + ((y1 >>> ((3 : Int32).toInt64 &&& 63)) &&& (3 : Int64))) + ((y1 >>> ((5 : Int32).toInt64 &&& 63)) &&& (3 : Int64)))), .second, .val (.int (x2 + (x3 &&& (1 : Int32)))), .val (.int (x2 + ((x3 >>> ((1 : Int32) &&& 31)) &&& (1 : Int32)))), .val (.int (x2 + ((x3 >>> ((2 : Int32) &&& 31)) &&& (1 : Int32)))), .unset, .unset, .unset, .unset, .unset, .unset] [(.ref b1)])
  refine own_by (fun t_ k_ => XS.dup X1.here hx rfl (hb hby at_74) rfl rfl k_) ?_
  show own_Go p e below _ T1 (mkF m 75 #[.val (.int x1), .val (.long y1), .second, .val (.long y2), .second, .val (.long y3), .second, .val (.int x2), .val (.int x3), .val (.int nq), .val (.long ((y1 &&& (7 : Int64)) - (4 : Int64))), .second, .val (.long (((y1 &&& (7 : Int64)) - (4 : Int64)) + ((y1 >>> ((3 : Int32).toInt64 &&& 63)) &&& (3 : Int64)))), .second, .val (.long ((((y1 &&& (7 : Int64)) - (4 : Int64)) + ((y1 >>> ((3 : Int32).toInt64 &&& 63)) &&& (3 : Int64))) + ((y1 >>> ((5 : Int32).toInt64 &&& 63)) &&& (3 : Int64)))), .second, .val (.int (x2 + (x3 &&& (1 : Int32)))), .val (.int (x2 + ((x3 >>> ((1 : Int32) &&& 31)) &&& (1 : Int32)))), .val (.int (x2 + ((x3 >>> ((2 : Int32) &&& 31)) &&& (1 : Int32)))), .unset, .unset, .unset, .unset, .unset, .unset] [(.ref b1), (.ref b1)])
  refine own_callC (W := 1) X1 hx hZ (y := (⟨"com/example/hedgewalk/hedgewalk/eval/Agenda", "<init>", "()V"⟩ : MethodName)) rfl hown (own_w hw 6 rfl) (own_w hw 7 rfl) (own_w hw 5 rfl) (own_w hw 8 rfl) (by decide) (by rw [hml]; rfl) (argsL := []) pd_0 rfl (a := b1) (rm1 l Z a0 hw [] b1 h1 n0 sz1 A1 F2_0 F3_0 g_b1) (by decide) (by decide) (Nat.le_of_eq rfl) (by decide) (by decide) (rest := [(.ref b1)]) e1 rfl (hb hby at_75) ?_
  intro v4 T4 L4 X4 hQ4
  obtain ⟨rfl, N4q, K4q, E4⟩ := hQ4
  have N4 := Fr.app N0 N4q
  have sz4 : n0 ≤ T4.heap.size := Nat.le_trans sz1 K4q.1
  show own_Go p e below _ T4 (mkF m 78 #[.val (.int x1), .val (.long y1), .second, .val (.long y2), .second, .val (.long y3), .second, .val (.int x2), .val (.int x3), .val (.int nq), .val (.long ((y1 &&& (7 : Int64)) - (4 : Int64))), .second, .val (.long (((y1 &&& (7 : Int64)) - (4 : Int64)) + ((y1 >>> ((3 : Int32).toInt64 &&& 63)) &&& (3 : Int64)))), .second, .val (.long ((((y1 &&& (7 : Int64)) - (4 : Int64)) + ((y1 >>> ((3 : Int32).toInt64 &&& 63)) &&& (3 : Int64))) + ((y1 >>> ((5 : Int32).toInt64 &&& 63)) &&& (3 : Int64)))), .second, .val (.int (x2 + (x3 &&& (1 : Int32)))), .val (.int (x2 + ((x3 >>> ((1 : Int32) &&& 31)) &&& (1 : Int32)))), .val (.int (x2 + ((x3 >>> ((2 : Int32) &&& 31)) &&& (1 : Int32)))), .unset, .unset, .unset, .unset, .unset, .unset] [(.ref b1)])
  refine own_by (fun t_ k_ => XS.astore X4.here hx rfl (hb hby at_78) rfl rfl (l' := #[.val (.int x1), .val (.long y1), .second, .val (.long y2), .second, .val (.long y3), .second, .val (.int x2), .val (.int x3), .val (.int nq), .val (.long ((y1 &&& (7 : Int64)) - (4 : Int64))), .second, .val (.long (((y1 &&& (7 : Int64)) - (4 : Int64)) + ((y1 >>> ((3 : Int32).toInt64 &&& 63)) &&& (3 : Int64)))), .second, .val (.long ((((y1 &&& (7 : Int64)) - (4 : Int64)) + ((y1 >>> ((3 : Int32).toInt64 &&& 63)) &&& (3 : Int64))) + ((y1 >>> ((5 : Int32).toInt64 &&& 63)) &&& (3 : Int64)))), .second, .val (.int (x2 + (x3 &&& (1 : Int32)))), .val (.int (x2 + ((x3 >>> ((1 : Int32) &&& 31)) &&& (1 : Int32)))), .val (.int (x2 + ((x3 >>> ((2 : Int32) &&& 31)) &&& (1 : Int32)))), .val (.ref b1), .unset, .unset, .unset, .unset, .unset]) rfl k_) ?_
  show own_Go p e below _ T4 (mkF m 80 #[.val (.int x1), .val (.long y1), .second, .val (.long y2), .second, .val (.long y3), .second, .val (.int x2), .val (.int x3), .val (.int nq), .val (.long ((y1 &&& (7 : Int64)) - (4 : Int64))), .second, .val (.long (((y1 &&& (7 : Int64)) - (4 : Int64)) + ((y1 >>> ((3 : Int32).toInt64 &&& 63)) &&& (3 : Int64)))), .second, .val (.long ((((y1 &&& (7 : Int64)) - (4 : Int64)) + ((y1 >>> ((3 : Int32).toInt64 &&& 63)) &&& (3 : Int64))) + ((y1 >>> ((5 : Int32).toInt64 &&& 63)) &&& (3 : Int64)))), .second, .val (.int (x2 + (x3 &&& (1 : Int32)))), .val (.int (x2 + ((x3 >>> ((1 : Int32) &&& 31)) &&& (1 : Int32)))), .val (.int (x2 + ((x3 >>> ((2 : Int32) &&& 31)) &&& (1 : Int32)))), .val (.ref b1), .unset, .unset, .unset, .unset, .unset] [])
  refine own_newO X4 hx hZ hown (own_w hw 33 rfl) (own_w hw 34 rfl) (own_w hw 35 rfl) rfl (hb hby at_80) (by decide) (by decide) ?_
  intro T5 h5 b5 X5 e5 g5 E5 A5 D5
  have lt_b1_b5 : b1 < b5 := Nat.lt_of_lt_of_le E4.lt (Nat.le_of_eq g5.symm)
  have g_b5 : n0 ≤ b5 := Nat.le_trans sz4 (Nat.le_of_eq g5.symm)
  have sz5 : n0 ≤ h5.size := Nat.le_trans sz4 E5.1
  have F6_0 : Fld Z h5 b5 "com/example/hedgewalk/hedgewalk/eval/Verdict" "waiting" "Ljava/lang/Object;" .null := D5 (Or.inl (own_w hw 49 rfl)) (ty := (.object "java/lang/Object")) (by decide)
  show own_Go p e below _ T5 (mkF m 83 #[.val (.int x1), .val (.long y1), .second, .val (.long y2), .second, .val (.long y3), .second, .val (.int x2), .val (.int x3), .val (.int nq), .val (.long ((y1 &&& (7 : Int64)) - (4 : Int64))), .second, .val (.long (((y1 &&& (7 : Int64)) - (4 : Int64)) + ((y1 >>> ((3 : Int32).toInt64 &&& 63)) &&& (3 : Int64)))), .second, .val (.long ((((y1 &&& (7 : Int64)) - (4 : Int64)) + ((y1 >>> ((3 : Int32).toInt64 &&& 63)) &&& (3 : Int64))) + ((y1 >>> ((5 : Int32).toInt64 &&& 63)) &&& (3 : Int64)))), .second, .val (.int (x2 + (x3 &&& (1 : Int32)))), .val (.int (x2 + ((x3 >>> ((1 : Int32) &&& 31)) &&& (1 : Int32)))), .val (.int (x2 + ((x3 >>> ((2 : Int32) &&& 31)) &&& (1 : Int32)))), .val (.ref b1), .unset, .unset, .unset, .unset, .unset] [(.ref b5)])
  refine own_by (fun t_ k_ => XS.dup X5.here hx rfl (hb hby at_83) rfl rfl k_) ?_
  show own_Go p e below _ T5 (mkF m 84 #[.val (.int x1), .val (.long y1), .second, .val (.long y2), .second, .val (.long y3), .second, .val (.int x2), .val (.int x3), .val (.int nq), .val (.long ((y1 &&& (7 : Int64)) - (4 : Int64))), .second, .val (.long (((y1 &&& (7 : Int64)) - (4 : Int64)) + ((y1 >>> ((3 : Int32).toInt64 &&& 63)) &&& (3 : Int64)))), .second, .val (.long ((((y1 &&& (7 : Int64)) - (4 : Int64)) + ((y1 >>> ((3 : Int32).toInt64 &&& 63)) &&& (3 : Int64))) + ((y1 >>> ((5 : Int32).toInt64 &&& 63)) &&& (3 : Int64)))), .second, .val (.int (x2 + (x3 &&& (1 : Int32)))), .val (.int (x2 + ((x3 >>> ((1 : Int32) &&& 31)) &&& (1 : Int32)))), .val (.int (x2 + ((x3 >>> ((2 : Int32) &&& 31)) &&& (1 : Int32)))), .val (.ref b1), .unset, .unset, .unset, .unset, .unset] [(.ref b5), (.ref b5)])
  refine own_callC (W := 1) X5 hx hZ (y := (⟨"com/example/hedgewalk/hedgewalk/eval/Verdict$Told", "<init>", "()V"⟩ : MethodName)) rfl hown (own_w hw 36 rfl) (own_w hw 37 rfl) (own_w hw 35 rfl) (own_w hw 38 rfl) (by decide) (by rw [hml]; rfl) (argsL := []) pd_0 rfl (a := b5) (rm5 l Z a0 hw [] b5 h5 n0 sz5 A5 F6_0 g_b5) (by decide) (by decide) (Nat.le_of_eq rfl) (by decide) (by decide) (rest := [(.ref b5)]) e5 rfl (hb hby at_84) ?_
  intro v7 T7 L7 X7 hQ7
  obtain ⟨rfl, N7q, K7q, E7, F7⟩ := hQ7
  have N7 := Fr.app N4 N7q
  have sz7 : n0 ≤ T7.heap.size := Nat.le_trans sz5 K7q.1
  show own_Go p e below _ T7 (mkF m 87 #[.val (.int x1), .val (.long y1), .second, .val (.long y2), .second, .val (.long y3), .second, .val (.int x2), .val (.int x3), .val (.int nq), .val (.long ((y1 &&& (7 : Int64)) - (4 : Int64))), .second, .val (.long (((y1 &&& (7 : Int64)) - (4 : Int64)) + ((y1 >>> ((3 : Int32).toInt64 &&& 63)) &&& (3 : Int64)))), .second, .val (.long ((((y1 &&& (7 : Int64)) - (4 : Int64)) + ((y1 >>> ((3 : Int32).toInt64 &&& 63)) &&& (3 : Int64))) + ((y1 >>> ((5 : Int32).toInt64 &&& 63)) &&& (3 : Int64)))), .second, .val (.int (x2 + (x3 &&& (1 : Int32)))), .val (.int (x2 + ((x3 >>> ((1 : Int32) &&& 31)) &&& (1 : Int32)))), .val (.int (x2 + ((x3 >>> ((2 : Int32) &&& 31)) &&& (1 : Int32)))), .val (.ref b1), .unset, .unset, .unset, .unset, .unset] [(.ref b5)])
  refine own_by (fun t_ k_ => XS.astore X7.here hx rfl (hb hby at_87) rfl rfl (l' := #[.val (.int x1), .val (.long y1), .second, .val (.long y2), .second, .val (.long y3), .second, .val (.int x2), .val (.int x3), .val (.int nq), .val (.long ((y1 &&& (7 : Int64)) - (4 : Int64))), .second, .val (.long (((y1 &&& (7 : Int64)) - (4 : Int64)) + ((y1 >>> ((3 : Int32).toInt64 &&& 63)) &&& (3 : Int64)))), .second, .val (.long ((((y1 &&& (7 : Int64)) - (4 : Int64)) + ((y1 >>> ((3 : Int32).toInt64 &&& 63)) &&& (3 : Int64))) + ((y1 >>> ((5 : Int32).toInt64 &&& 63)) &&& (3 : Int64)))), .second, .val (.int (x2 + (x3 &&& (1 : Int32)))), .val (.int (x2 + ((x3 >>> ((1 : Int32) &&& 31)) &&& (1 : Int32)))), .val (.int (x2 + ((x3 >>> ((2 : Int32) &&& 31)) &&& (1 : Int32)))), .val (.ref b1), .val (.ref b5), .unset, .unset, .unset, .unset]) rfl k_) ?_
  show own_Go p e below _ T7 (mkF m 89 #[.val (.int x1), .val (.long y1), .second, .val (.long y2), .second, .val (.long y3), .second, .val (.int x2), .val (.int x3), .val (.int nq), .val (.long ((y1 &&& (7 : Int64)) - (4 : Int64))), .second, .val (.long (((y1 &&& (7 : Int64)) - (4 : Int64)) + ((y1 >>> ((3 : Int32).toInt64 &&& 63)) &&& (3 : Int64)))), .second, .val (.long ((((y1 &&& (7 : Int64)) - (4 : Int64)) + ((y1 >>> ((3 : Int32).toInt64 &&& 63)) &&& (3 : Int64))) + ((y1 >>> ((5 : Int32).toInt64 &&& 63)) &&& (3 : Int64)))), .second, .val (.int (x2 + (x3 &&& (1 : Int32)))), .val (.int (x2 + ((x3 >>> ((1 : Int32) &&& 31)) &&& (1 : Int32)))), .val (.int (x2 + ((x3 >>> ((2 : Int32) &&& 31)) &&& (1 : Int32)))), .val (.ref b1), .val (.ref b5), .unset, .unset, .unset, .unset] [])
  refine own_newO X7 hx hZ hown (own_w hw 33 rfl) (own_w hw 34 rfl) (own_w hw 35 rfl) rfl (hb hby at_89) (by decide) (by decide) ?_
  intro T8 h8 b8 X8 e8 g8 E8 A8 D8
  have E4_9 : Exa Z T7.heap b1 "com/example/hedgewalk/hedgewalk/eval/Agenda" := (Exa.keep (Exa.ext E5 E4) K7q)
  have lt_b1_b8 : b1 < b8 := Nat.lt_of_lt_of_le E4_9.lt (Nat.le_of_eq g8.symm)
  have lt_b5_b8 : b5 < b8 := Nat.lt_of_lt_of_le E7.lt (Nat.le_of_eq g8.symm)
  have g_b8 : n0 ≤ b8 := Nat.le_trans sz7 (Nat.le_of_eq g8.symm)
  have sz8 : n0 ≤ h8.size := Nat.le_trans sz7 E8.1
  have F10_0 : Fld Z h8 b8 "com/example/hedgewalk/hedgewalk/eval/Verdict" "waiting" "Ljava/lang/Object;" .null := D8 (Or.inl (own_w hw 49 rfl)) (ty := (.object "java/lang/Object")) (by decide)
  show own_Go p e below _ T8 (mkF m 92 #[.val (.int x1), .val (.long y1), .second, .val (.long y2), .second, .val (.long y3), .second, .val (.int x2), .val (.int x3), .val (.int nq), .val (.long ((y1 &&& (7 : Int64)) - (4 : Int64))), .second, .val (.long (((y1 &&& (7 : Int64)) - (4 : Int64)) + ((y1 >>> ((3 : Int32).toInt64 &&& 63)) &&& (3 : Int64)))), .second, .val (.long ((((y1 &&& (7 : Int64)) - (4 : Int64)) + ((y1 >>> ((3 : Int32).toInt64 &&& 63)) &&& (3 : Int64))) + ((y1 >>> ((5 : Int32).toInt64 &&& 63)) &&& (3 : Int64)))), .second, .val (.int (x2 + (x3 &&& (1 : Int32)))), .val (.int (x2 + ((x3 >>> ((1 : Int32) &&& 31)) &&& (1 : Int32)))), .val (.int (x2 + ((x3 >>> ((2 : Int32) &&& 31)) &&& (1 : Int32)))), .val (.ref b1), .val (.ref b5), .unset, .unset, .unset, .unset] [(.ref b8)])
  refine own_by (fun t_ k_ => XS.dup X8.here hx rfl (hb hby at_92) rfl rfl k_) ?_
  show own_Go p e below _ T8 (mkF m 93 #[.val (.int x1), .val (.long y1), .second, .val (.long y2), .second, .val (.long y3), .second, .val (.int x2), .val (.int x3), .val (.int nq), .val (.long ((y1 &&& (7 : Int64)) - (4 : Int64))), .second, .val (.long (((y1 &&& (7 : Int64)) - (4 : Int64)) + ((y1 >>> ((3 : Int32).toInt64 &&& 63)) &&& (3 : Int64)))), .second, .val (.long ((((y1 &&& (7 : Int64)) - (4 : Int64)) + ((y1 >>> ((3 : Int32).toInt64 &&& 63)) &&& (3 : Int64))) + ((y1 >>> ((5 : Int32).toInt64 &&& 63)) &&& (3 : Int64)))), .second, .val (.int (x2 + (x3 &&& (1 : Int32)))), .val (.int (x2 + ((x3 >>> ((1 : Int32) &&& 31)) &&& (1 : Int32)))), .val (.int (x2 + ((x3 >>> ((2 : Int32) &&& 31)) &&& (1 : Int32)))), .val (.ref b1), .val (.ref b5), .unset, .unset, .unset, .unset] [(.ref b8), (.ref b8)])
  refine own_callC (W := 1) X8 hx hZ (y := (⟨"com/example/hedgewalk/hedgewalk/eval/Verdict$Told", "<init>", "()V"⟩ : MethodName)) rfl hown (own_w hw 36 rfl) (own_w hw 37 rfl) (own_w hw 35 rfl) (own_w hw 38 rfl) (by decide) (by rw [hml]; rfl) (argsL := []) pd_0 rfl (a := b8) (rm5 l Z a0 hw [] b8 h8 n0 sz8 A8 F10_0 g_b8) (by decide) (by decide) (Nat.le_of_eq rfl) (by decide) (by decide) (rest := [(.ref b8)]) e8 rfl (hb hby at_93) ?_
  intro v11 T11 L11 X11 hQ11
  obtain ⟨rfl, N11q, K11q, E11, F11⟩ := hQ11
  have N11 := Fr.app N7 N11q
  have sz11 : n0 ≤ T11.heap.size := Nat.le_trans sz8 K11q.1
  show own_Go p e below _ T11 (mkF m 96 #[.val (.int x1), .val (.long y1), .second, .val (.long y2), .second, .val (.long y3), .second, .val (.int x2), .val (.int x3), .val (.int nq), .val (.long ((y1 &&& (7 : Int64)) - (4 : Int64))), .second, .val (.long (((y1 &&& (7 : Int64)) - (4 : Int64)) + ((y1 >>> ((3 : Int32).toInt64 &&& 63)) &&& (3 : Int64)))), .second, .val (.long ((((y1 &&& (7 : Int64)) - (4 : Int64)) + ((y1 >>> ((3 : Int32).toInt64 &&& 63)) &&& (3 : Int64))) + ((y1 >>> ((5 : Int32).toInt64 &&& 63)) &&& (3 : Int64)))), .second, .val (.int (x2 + (x3 &&& (1 : Int32)))), .val (.int (x2 + ((x3 >>> ((1 : Int32) &&& 31)) &&& (1 : Int32)))), .val (.int (x2 + ((x3 >>> ((2 : Int32) &&& 31)) &&& (1 : Int32)))), .val (.ref b1), .val (.ref b5), .unset, .unset, .unset, .unset] [(.ref b8)])
  refine own_by (fun t_ k_ => XS.astore X11.here hx rfl (hb hby at_96) rfl rfl (l' := #[.val (.int x1), .val (.long y1), .second, .val (.long y2), .second, .val (.long y3), .second, .val (.int x2), .val (.int x3), .val (.int nq), .val (.long ((y1 &&& (7 : Int64)) - (4 : Int64))), .second, .val (.long (((y1 &&& (7 : Int64)) - (4 : Int64)) + ((y1 >>> ((3 : Int32).toInt64 &&& 63)) &&& (3 : Int64)))), .second, .val (.long ((((y1 &&& (7 : Int64)) - (4 : Int64)) + ((y1 >>> ((3 : Int32).toInt64 &&& 63)) &&& (3 : Int64))) + ((y1 >>> ((5 : Int32).toInt64 &&& 63)) &&& (3 : Int64)))), .second, .val (.int (x2 + (x3 &&& (1 : Int32)))), .val (.int (x2 + ((x3 >>> ((1 : Int32) &&& 31)) &&& (1 : Int32)))), .val (.int (x2 + ((x3 >>> ((2 : Int32) &&& 31)) &&& (1 : Int32)))), .val (.ref b1), .val (.ref b5), .val (.ref b8), .unset, .unset, .unset]) rfl k_) ?_
  show own_Go p e below _ T11 (mkF m 98 #[.val (.int x1), .val (.long y1), .second, .val (.long y2), .second, .val (.long y3), .second, .val (.int x2), .val (.int x3), .val (.int nq), .val (.long ((y1 &&& (7 : Int64)) - (4 : Int64))), .second, .val (.long (((y1 &&& (7 : Int64)) - (4 : Int64)) + ((y1 >>> ((3 : Int32).toInt64 &&& 63)) &&& (3 : Int64)))), .second, .val (.long ((((y1 &&& (7 : Int64)) - (4 : Int64)) + ((y1 >>> ((3 : Int32).toInt64 &&& 63)) &&& (3 : Int64))) + ((y1 >>> ((5 : Int32).toInt64 &&& 63)) &&& (3 : Int64)))), .second, .val (.int (x2 + (x3 &&& (1 : Int32)))), .val (.int (x2 + ((x3 >>> ((1 : Int32) &&& 31)) &&& (1 : Int32)))), .val (.int (x2 + ((x3 >>> ((2 : Int32) &&& 31)) &&& (1 : Int32)))), .val (.ref b1), .val (.ref b5), .val (.ref b8), .unset, .unset, .unset] [])
  refine own_newO X11 hx hZ hown (own_w hw 33 rfl) (own_w hw 34 rfl) (own_w hw 35 rfl) rfl (hb hby at_98) (by decide) (by decide) ?_
  intro T12 h12 b12 X12 e12 g12 E12 A12 D12
  have E4_13 : Exa Z T11.heap b1 "com/example/hedgewalk/hedgewalk/eval/Agenda" := (Exa.keep (Exa.ext E8 E4_9) K11q)
  have lt_b1_b12 : b1 < b12 := Nat.lt_of_lt_of_le E4_13.lt (Nat.le_of_eq g12.symm)
  have E7_14 : Exa Z T11.heap b5 "com/example/hedgewalk/hedgewalk/eval/Verdict$Told" := (Exa.keep (Exa.ext E8 E7) K11q)
  have lt_b5_b12 : b5 < b12 := Nat.lt_of_lt_of_le E7_14.lt (Nat.le_of_eq g12.symm)
  have lt_b8_b12 : b8 < b12 := Nat.lt_of_lt_of_le E11.lt (Nat.le_of_eq g12.symm)
  have g_b12 : n0 ≤ b12 := Nat.le_trans sz11 (Nat.le_of_eq g12.symm)
  have sz12 : n0 ≤ h12.size := Nat.le_trans sz11 E12.1
  have F15_0 : Fld Z h12 b12 "com/example/hedgewalk/hedgewalk/eval/Verdict" "waiting" "Ljava/lang/Object;" .null := D12 (Or.inl (own_w hw 49 rfl)) (ty := (.object "java/lang/Object")) (by decide)
  show own_Go p e below _ T12 (mkF m 101 #[.val (.int x1), .val (.long y1), .second, .val (.long y2), .second, .val (.long y3), .second, .val (.int x2), .val (.int x3), .val (.int nq), .val (.long ((y1 &&& (7 : Int64)) - (4 : Int64))), .second, .val (.long (((y1 &&& (7 : Int64)) - (4 : Int64)) + ((y1 >>> ((3 : Int32).toInt64 &&& 63)) &&& (3 : Int64)))), .second, .val (.long ((((y1 &&& (7 : Int64)) - (4 : Int64)) + ((y1 >>> ((3 : Int32).toInt64 &&& 63)) &&& (3 : Int64))) + ((y1 >>> ((5 : Int32).toInt64 &&& 63)) &&& (3 : Int64)))), .second, .val (.int (x2 + (x3 &&& (1 : Int32)))), .val (.int (x2 + ((x3 >>> ((1 : Int32) &&& 31)) &&& (1 : Int32)))), .val (.int (x2 + ((x3 >>> ((2 : Int32) &&& 31)) &&& (1 : Int32)))), .val (.ref b1), .val (.ref b5), .val (.ref b8), .unset, .unset, .unset] [(.ref b12)])
  refine own_by (fun t_ k_ => XS.dup X12.here hx rfl (hb hby at_101) rfl rfl k_) ?_
  show own_Go p e below _ T12 (mkF m 102 #[.val (.int x1), .val (.long y1), .second, .val (.long y2), .second, .val (.long y3), .second, .val (.int x2), .val (.int x3), .val (.int nq), .val (.long ((y1 &&& (7 : Int64)) - (4 : Int64))), .second, .val (.long (((y1 &&& (7 : Int64)) - (4 : Int64)) + ((y1 >>> ((3 : Int32).toInt64 &&& 63)) &&& (3 : Int64)))), .second, .val (.long ((((y1 &&& (7 : Int64)) - (4 : Int64)) + ((y1 >>> ((3 : Int32).toInt64 &&& 63)) &&& (3 : Int64))) + ((y1 >>> ((5 : Int32).toInt64 &&& 63)) &&& (3 : Int64)))), .second, .val (.int (x2 + (x3 &&& (1 : Int32)))), .val (.int (x2 + ((x3 >>> ((1 : Int32) &&& 31)) &&& (1 : Int32)))), .val (.int (x2 + ((x3 >>> ((2 : Int32) &&& 31)) &&& (1 : Int32)))), .val (.ref b1), .val (.ref b5), .val (.ref b8), .unset, .unset, .unset] [(.ref b12), (.ref b12)])
  refine own_callC (W := 1) X12 hx hZ (y := (⟨"com/example/hedgewalk/hedgewalk/eval/Verdict$Told", "<init>", "()V"⟩ : MethodName)) rfl hown (own_w hw 36 rfl) (own_w hw 37 rfl) (own_w hw 35 rfl) (own_w hw 38 rfl) (by decide) (by rw [hml]; rfl) (argsL := []) pd_0 rfl (a := b12) (rm5 l Z a0 hw [] b12 h12 n0 sz12 A12 F15_0 g_b12) (by decide) (by decide) (Nat.le_of_eq rfl) (by decide) (by decide) (rest := [(.ref b12)]) e12 rfl (hb hby at_102) ?_
  intro v16 T16 L16 X16 hQ16
  obtain ⟨rfl, N16q, K16q, E16, F16⟩ := hQ16
  have N16 := Fr.app N11 N16q
  have sz16 : n0 ≤ T16.heap.size := Nat.le_trans sz12 K16q.1
  show own_Go p e below _ T16 (mkF m 105 #[.val (.int x1), .val (.long y1), .second, .val (.long y2), .second, .val (.long y3), .second, .val (.int x2), .val (.int x3), .val (.int nq), .val (.long ((y1 &&& (7 : Int64)) - (4 : Int64))), .second, .val (.long (((y1 &&& (7 : Int64)) - (4 : Int64)) + ((y1 >>> ((3 : Int32).toInt64 &&& 63)) &&& (3 : Int64)))), .second, .val (.long ((((y1 &&& (7 : Int64)) - (4 : Int64)) + ((y1 >>> ((3 : Int32).toInt64 &&& 63)) &&& (3 : Int64))) + ((y1 >>> ((5 : Int32).toInt64 &&& 63)) &&& (3 : Int64)))), .second, .val (.int (x2 + (x3 &&& (1 : Int32)))), .val (.int (x2 + ((x3 >>> ((1 : Int32) &&& 31)) &&& (1 : Int32)))), .val (.int (x2 + ((x3 >>> ((2 : Int32) &&& 31)) &&& (1 : Int32)))), .val (.ref b1), .val (.ref b5), .val (.ref b8), .unset, .unset, .unset] [(.ref b12)])
  refine own_by (fun t_ k_ => XS.astore X16.here hx rfl (hb hby at_105) rfl rfl (l' := #[.val (.int x1), .val (.long y1), .second, .val (.long y2), .second, .val (.long y3), .second, .val (.int x2), .val (.int x3), .val (.int nq), .val (.long ((y1 &&& (7 : Int64)) - (4 : Int64))), .second, .val (.long (((y1 &&& (7 : Int64)) - (4 : Int64)) + ((y1 >>> ((3 : Int32).toInt64 &&& 63)) &&& (3 : Int64)))), .second, .val (.long ((((y1 &&& (7 : Int64)) - (4 : Int64)) + ((y1 >>> ((3 : Int32).toInt64 &&& 63)) &&& (3 : Int64))) + ((y1 >>> ((5 : Int32).toInt64 &&& 63)) &&& (3 : Int64)))), .second, .val (.int (x2 + (x3 &&& (1 : Int32)))), .val (.int (x2 + ((x3 >>> ((1 : Int32) &&& 31)) &&& (1 : Int32)))), .val (.int (x2 + ((x3 >>> ((2 : Int32) &&& 31)) &&& (1 : Int32)))), .val (.ref b1), .val (.ref b5), .val (.ref b8), .val (.ref b12), .unset, .unset]) rfl k_) ?_
  show own_Go p e below _ T16 (mkF m 107 #[.val (.int x1), .val (.long y1), .second, .val (.long y2), .second, .val (.long y3), .second, .val (.int x2), .val (.int x3), .val (.int nq), .val (.long ((y1 &&& (7 : Int64)) - (4 : Int64))), .second, .val (.long (((y1 &&& (7 : Int64)) - (4 : Int64)) + ((y1 >>> ((3 : Int32).toInt64 &&& 63)) &&& (3 : Int64)))), .second, .val (.long ((((y1 &&& (7 : Int64)) - (4 : Int64)) + ((y1 >>> ((3 : Int32).toInt64 &&& 63)) &&& (3 : Int64))) + ((y1 >>> ((5 : Int32).toInt64 &&& 63)) &&& (3 : Int64)))), .second, .val (.int (x2 + (x3 &&& (1 : Int32)))), .val (.int (x2 + ((x3 >>> ((1 : Int32) &&& 31)) &&& (1 : Int32)))), .val (.int (x2 + ((x3 >>> ((2 : Int32) &&& 31)) &&& (1 : Int32)))), .val (.ref b1), .val (.ref b5), .val (.ref b8), .val (.ref b12), .unset, .unset] [])
  refine own_newO X16 hx hZ hown (own_w hw 50 rfl) (own_w hw 51 rfl) (own_w hw 52 rfl) rfl (hb hby at_107) (by decide) (by decide) ?_
  intro T17 h17 b17 X17 e17 g17 E17 A17 D17
  have E4_18 : Exa Z T16.heap b1 "com/example/hedgewalk/hedgewalk/eval/Agenda" := (Exa.keep (Exa.ext E12 E4_13) K16q)
  have lt_b1_b17 : b1 < b17 := Nat.lt_of_lt_of_le E4_18.lt (Nat.le_of_eq g17.symm)
  have E7_19 : Exa Z T16.heap b5 "com/example/hedgewalk/hedgewalk/eval/Verdict$Told" := (Exa.keep (Exa.ext E12 E7_14) K16q)
  have lt_b5_b17 : b5 < b17 := Nat.lt_of_lt_of_le E7_19.lt (Nat.le_of_eq g17.symm)
  have E11_20 : Exa Z T16.heap b8 "com/example/hedgewalk/hedgewalk/eval/Verdict$Told" := (Exa.keep (Exa.ext E12 E11) K16q)
  have lt_b8_b17 : b8 < b17 := Nat.lt_of_lt_of_le E11_20.lt (Nat.le_of_eq g17.symm)
  have lt_b12_b17 : b12 < b17 := Nat.lt_of_lt_of_le E16.lt (Nat.le_of_eq g17.symm)
  have g_b17 : n0 ≤ b17 := Nat.le_trans sz16 (Nat.le_of_eq g17.symm)
  have sz17 : n0 ≤ h17.size := Nat.le_trans sz16 E17.1
  have F21_0 : Fld Z h17 b17 "com/example/hedgewalk/hedgewalk/eval/GoalQueue" "keys" "[J" .null := D17 (Or.inl (own_w hw 59 rfl)) (ty := (.array .long)) (by decide)
  have F22_0 : Fld Z h17 b17 "com/example/hedgewalk/hedgewalk/eval/GoalQueue" "holders" "[I" .null := D17 (Or.inl (own_w hw 62 rfl)) (ty := (.array .int)) (by decide)
  have F23_0 : Fld Z h17 b17 "com/example/hedgewalk/hedgewalk/eval/GoalQueue" "goals" "[Lcom/example/hedgewalk/hedgewalk/eval/Verdict$Listener;" .null := D17 (Or.inl (own_w hw 66 rfl)) (ty := (.array (.object "com/example/hedgewalk/hedgewalk/eval/Verdict$Listener"))) (by decide)
  have F24_0 : Fld Z h17 b17 "com/example/hedgewalk/hedgewalk/eval/GoalQueue" "firstOpen" "I" (.int (0 : Int32)) := D17 (Or.inl (own_w hw 73 rfl)) (ty := .int) (by decide)
  have F25_0 : Fld Z h17 b17 "com/example/hedgewalk/hedgewalk/eval/GoalQueue" "size" "I" (.int (0 : Int32)) := D17 (Or.inl (own_w hw 75 rfl)) (ty := .int) (by decide)
  show own_Go p e below _ T17 (mkF m 110 #[.val (.int x1), .val (.long y1), .second, .val (.long y2), .second, .val (.long y3), .second, .val (.int x2), .val (.int x3), .val (.int nq), .val (.long ((y1 &&& (7 : Int64)) - (4 : Int64))), .second, .val (.long (((y1 &&& (7 : Int64)) - (4 : Int64)) + ((y1 >>> ((3 : Int32).toInt64 &&& 63)) &&& (3 : Int64)))), .second, .val (.long ((((y1 &&& (7 : Int64)) - (4 : Int64)) + ((y1 >>> ((3 : Int32).toInt64 &&& 63)) &&& (3 : Int64))) + ((y1 >>> ((5 : Int32).toInt64 &&& 63)) &&& (3 : Int64)))), .second, .val (.int (x2 + (x3 &&& (1 : Int32)))), .val (.int (x2 + ((x3 >>> ((1 : Int32) &&& 31)) &&& (1 : Int32)))), .val (.int (x2 + ((x3 >>> ((2 : Int32) &&& 31)) &&& (1 : Int32)))), .val (.ref b1), .val (.ref b5), .val (.ref b8), .val (.ref b12), .unset, .unset] [(.ref b17)])
  refine own_by (fun t_ k_ => XS.dup X17.here hx rfl (hb hby at_110) rfl rfl k_) ?_
  show own_Go p e below _ T17 (mkF m 111 #[.val (.int x1), .val (.long y1), .second, .val (.long y2), .second, .val (.long y3), .second, .val (.int x2), .val (.int x3), .val (.int nq), .val (.long ((y1 &&& (7 : Int64)) - (4 : Int64))), .second, .val (.long (((y1 &&& (7 : Int64)) - (4 : Int64)) + ((y1 >>> ((3 : Int32).toInt64 &&& 63)) &&& (3 : Int64)))), .second, .val (.long ((((y1 &&& (7 : Int64)) - (4 : Int64)) + ((y1 >>> ((3 : Int32).toInt64 &&& 63)) &&& (3 : Int64))) + ((y1 >>> ((5 : Int32).toInt64 &&& 63)) &&& (3 : Int64)))), .second, .val (.int (x2 + (x3 &&& (1 : Int32)))), .val (.int (x2 + ((x3 >>> ((1 : Int32) &&& 31)) &&& (1 : Int32)))), .val (.int (x2 + ((x3 >>> ((2 : Int32) &&& 31)) &&& (1 : Int32)))), .val (.ref b1), .val (.ref b5), .val (.ref b8), .val (.ref b12), .unset, .unset] [(.ref b17), (.ref b17)])
  refine own_callC (W := 1) X17 hx hZ (y := (⟨"com/example/hedgewalk/hedgewalk/eval/GoalQueue", "<init>", "()V"⟩ : MethodName)) rfl hown (own_w hw 53 rfl) (own_w hw 54 rfl) (own_w hw 52 rfl) (own_w hw 55 rfl) (by decide) (by rw [hml]; rfl) (argsL := []) pd_0 rfl (a := b17) (rm8 l Z a0 hw [] b17 h17 n0 sz17 A17 F21_0 F22_0 F23_0 F25_0 F24_0 g_b17) (by decide) (by decide) (Nat.le_of_eq rfl) (by decide) (by decide) (rest := [(.ref b17)]) e17 rfl (hb hby at_111) ?_
  intro v26 T26 L26 X26 hQ26
  obtain ⟨bk, bh, bg, rfl, N26q, K26q, HG26⟩ := hQ26
  have N26 := Fr.app N16 N26q
  have sz26 : n0 ≤ T26.heap.size := Nat.le_trans sz17 K26q.1
  have E7_27 : Exa Z T26.heap b5 "com/example/hedgewalk/hedgewalk/eval/Verdict$Told" := (Exa.keep (Exa.ext E17 E7_19) K26q)
  have F7_28 : Fld Z T26.heap b5 "com/example/hedgewalk/hedgewalk/eval/Verdict" "waiting" "Ljava/lang/Object;" .null := (Fld.keep (Fld.ext E17 (Fld.keep (Fld.ext E12 (Fld.keep (Fld.ext E8 F7) K11q (ninS (Nat.ne_of_lt lt_b5_b8) nin0))) K16q (ninS (Nat.ne_of_lt lt_b5_b12) nin0))) K26q (ninS (Nat.ne_of_lt lt_b5_b17) nin0))
  have E11_29 : Exa Z T26.heap b8 "com/example/hedgewalk/hedgewalk/eval/Verdict$Told" := (Exa.keep (Exa.ext E17 E11_20) K26q)
  have F11_30 : Fld Z T26.heap b8 "com/example/hedgewalk/hedgewalk/eval/Verdict" "waiting" "Ljava/lang/Object;" .null := (Fld.keep (Fld.ext E17 (Fld.keep (Fld.ext E12 F11) K16q (ninS (Nat.ne_of_lt lt_b8_b12) nin0))) K26q (ninS (Nat.ne_of_lt lt_b8_b17) nin0))
  have E16_31 : Exa Z T26.heap b12 "com/example/hedgewalk/hedgewalk/eval/Verdict$Told" := (Exa.keep (Exa.ext E17 E16) K26q)
  have F16_32 : Fld Z T26.heap b12 "com/example/hedgewalk/hedgewalk/eval/Verdict" "waiting" "Ljava/lang/Object;" .null := (Fld.keep (Fld.ext E17 F16) K26q (ninS (Nat.ne_of_lt lt_b12_b17) nin0))
  have S_H_33 : Sta Z T26.heap "com/example/hedgewalk/hedgewalk/eval/Verdict" "HOLDS" "Ljava/lang/Object;" (.ref aH) := (own_Sta_keep (Sta.ext E17 (own_Sta_keep (Sta.ext E12 (own_Sta_keep (Sta.ext E8 (own_Sta_keep (Sta.ext E5 (own_Sta_keep (Sta.ext E1 S_H) K4q (nsS (Exa.nostat A1) ns0))) K7q (nsS (Exa.nostat A5) ns0))) K11q (nsS (Exa.nostat A8) ns0))) K16q (nsS (Exa.nostat A12) ns0))) K26q (nsS (Exa.nostat A17) ns0))
  have S_F_34 : Sta Z T26.heap "com/example/hedgewalk/hedgewalk/eval/Verdict" "FAILS" "Ljava/lang/Object;" (.ref aF) := (own_Sta_keep (Sta.ext E17 (own_Sta_keep (Sta.ext E12 (own_Sta_keep (Sta.ext E8 (own_Sta_keep (Sta.ext E5 (own_Sta_keep (Sta.ext E1 S_F) K4q (nsS (Exa.nostat A1) ns0))) K7q (nsS (Exa.nostat A5) ns0))) K11q (nsS (Exa.nostat A8) ns0))) K16q (nsS (Exa.nostat A12) ns0))) K26q (nsS (Exa.nostat A17) ns0))
  have E4_35 : Exa Z T26.heap b1 "com/example/hedgewalk/hedgewalk/eval/Agenda" := (Exa.keep (Exa.ext E17 E4_18) K26q)
  have HD26 : own_D Z T26.heap n0 aH aF (([] : List Addr) ++ ([b5, b8, b12] : List Addr)) ([b5, b8, b12] : List Addr) := by
    intro y hy
    simp only [List.mem_cons, List.not_mem_nil, or_false] at hy
    rcases hy with rfl | rfl | rfl
    · exact ⟨⟨E7_27, _, F7_28, Or.inl ⟨by simp, rfl⟩⟩, g_b5⟩
    · exact ⟨⟨E11_29, _, F11_30, Or.inl ⟨by simp, rfl⟩⟩, g_b8⟩
    · exact ⟨⟨E16_31, _, F16_32, Or.inl ⟨by simp, rfl⟩⟩, g_b12⟩
  have HW36_ : own_W Z T26.heap n0 aH aF b17 bk bh bg b1 ([b5, b8, b12] : List Addr) [] [] ([b5, b8, b12] : List Addr) 0 0 := ⟨_, _, _, HG26, ⟨by decide, by decide, rfl, rfl, List.nodup_nil, fun y hy => absurd hy List.not_mem_nil, fun i y hy => by simp at hy⟩, Nat.le_refl _, rfl, rfl, HD26, S_H_33, S_F_34, E4_35, fun y hy => absurd hy List.not_mem_nil, fun y hy => absurd hy List.not_mem_nil⟩
  have Eq36 := HW36_.exa
  have sz36_ := HW36_.sz
  show own_Go p e below _ T26 (mkF m 114 #[.val (.int x1), .val (.long y1), .second, .val (.long y2), .second, .val (.long y3), .second, .val (.int x2), .val (.int x3), .val (.int nq), .val (.long ((y1 &&& (7 : Int64)) - (4 : Int64))), .second, .val (.long (((y1 &&& (7 : Int64)) - (4 : Int64)) + ((y1 >>> ((3 : Int32).toInt64 &&& 63)) &&& (3 : Int64)))), .second, .val (.long ((((y1 &&& (7 : Int64)) - (4 : Int64)) + ((y1 >>> ((3 : Int32).toInt64 &&& 63)) &&& (3 : Int64))) + ((y1 >>> ((5 : Int32).toInt64 &&& 63)) &&& (3 : Int64)))), .second, .val (.int (x2 + (x3 &&& (1 : Int32)))), .val (.int (x2 + ((x3 >>> ((1 : Int32) &&& 31)) &&& (1 : Int32)))), .val (.int (x2 + ((x3 >>> ((2 : Int32) &&& 31)) &&& (1 : Int32)))), .val (.ref b1), .val (.ref b5), .val (.ref b8), .val (.ref b12), .unset, .unset] [(.ref b17)])
  refine own_by (fun t_ k_ => XS.astore X26.here hx rfl (hb hby at_114) rfl rfl (l' := #[.val (.int x1), .val (.long y1), .second, .val (.long y2), .second, .val (.long y3), .second, .val (.int x2), .val (.int x3), .val (.int nq), .val (.long ((y1 &&& (7 : Int64)) - (4 : Int64))), .second, .val (.long (((y1 &&& (7 : Int64)) - (4 : Int64)) + ((y1 >>> ((3 : Int32).toInt64 &&& 63)) &&& (3 : Int64)))), .second, .val (.long ((((y1 &&& (7 : Int64)) - (4 : Int64)) + ((y1 >>> ((3 : Int32).toInt64 &&& 63)) &&& (3 : Int64))) + ((y1 >>> ((5 : Int32).toInt64 &&& 63)) &&& (3 : Int64)))), .second, .val (.int (x2 + (x3 &&& (1 : Int32)))), .val (.int (x2 + ((x3 >>> ((1 : Int32) &&& 31)) &&& (1 : Int32)))), .val (.int (x2 + ((x3 >>> ((2 : Int32) &&& 31)) &&& (1 : Int32)))), .val (.ref b1), .val (.ref b5), .val (.ref b8), .val (.ref b12), .val (.ref b17), .unset]) rfl k_) ?_
  show own_Go p e below _ T26 (mkF m 116 #[.val (.int x1), .val (.long y1), .second, .val (.long y2), .second, .val (.long y3), .second, .val (.int x2), .val (.int x3), .val (.int nq), .val (.long ((y1 &&& (7 : Int64)) - (4 : Int64))), .second, .val (.long (((y1 &&& (7 : Int64)) - (4 : Int64)) + ((y1 >>> ((3 : Int32).toInt64 &&& 63)) &&& (3 : Int64)))), .second, .val (.long ((((y1 &&& (7 : Int64)) - (4 : Int64)) + ((y1 >>> ((3 : Int32).toInt64 &&& 63)) &&& (3 : Int64))) + ((y1 >>> ((5 : Int32).toInt64 &&& 63)) &&& (3 : Int64)))), .second, .val (.int (x2 + (x3 &&& (1 : Int32)))), .val (.int (x2 + ((x3 >>> ((1 : Int32) &&& 31)) &&& (1 : Int32)))), .val (.int (x2 + ((x3 >>> ((2 : Int32) &&& 31)) &&& (1 : Int32)))), .val (.ref b1), .val (.ref b5), .val (.ref b8), .val (.ref b12), .val (.ref b17), .unset] [])
  refine own_by (fun t_ k_ => XS.aload X26.here hx rfl (hb hby at_116) rfl rfl k_) ?_
  show own_Go p e below _ T26 (mkF m 118 #[.val (.int x1), .val (.long y1), .second, .val (.long y2), .second, .val (.long y3), .second, .val (.int x2), .val (.int x3), .val (.int nq), .val (.long ((y1 &&& (7 : Int64)) - (4 : Int64))), .second, .val (.long (((y1 &&& (7 : Int64)) - (4 : Int64)) + ((y1 >>> ((3 : Int32).toInt64 &&& 63)) &&& (3 : Int64)))), .second, .val (.long ((((y1 &&& (7 : Int64)) - (4 : Int64)) + ((y1 >>> ((3 : Int32).toInt64 &&& 63)) &&& (3 : Int64))) + ((y1 >>> ((5 : Int32).toInt64 &&& 63)) &&& (3 : Int64)))), .second, .val (.int (x2 + (x3 &&& (1 : Int32)))), .val (.int (x2 + ((x3 >>> ((1 : Int32) &&& 31)) &&& (1 : Int32)))), .val (.int (x2 + ((x3 >>> ((2 : Int32) &&& 31)) &&& (1 : Int32)))), .val (.ref b1), .val (.ref b5), .val (.ref b8), .val (.ref b12), .val (.ref b17), .unset] [(.ref b17)])
  refine own_callV (W := 0) X26 hx hZ (y := (⟨"com/example/hedgewalk/hedgewalk/eval/GoalQueue", "hasOpen", "()Z"⟩ : MethodName)) (z := (⟨"com/example/hedgewalk/hedgewalk/eval/GoalQueue", "hasOpen", "()Z"⟩ : MethodName)) hown (own_w hw 67 rfl) (own_w hw 68 rfl) (notFace_of_selects (args := #[]) (mvT hZ (own_w hw 70 rfl))) (own_w hw 70 rfl) (own_w hw 69 rfl) (own_w hw 52 rfl) (own_w hw 71 rfl) (by decide) (by rw [hml]; rfl) (argsL := []) pd_2 rfl (a := b17) rfl Eq36 (rm9 l Z a0 hw [] b17 aH aF bk bh bg b1 ([b5, b8, b12] : List Addr) [] [] ([b5, b8, b12] : List Addr) 0 0 T26.heap n0 sz36_ HW36_) (by decide) (by decide) (Nat.le_of_eq rfl) (by decide) (by decide) (rest := []) rfl (hb hby at_118) ?_
  intro v37 T37 L37 X37 hQ37
  obtain ⟨rfl, N37q, e37⟩ := hQ37
  have N37 := Fr.app N26 N37q
  show own_Go p e below _ T37 (mkF m 121 #[.val (.int x1), .val (.long y1), .second, .val (.long y2), .second, .val (.long y3), .second, .val (.int x2), .val (.int x3), .val (.int nq), .val (.long ((y1 &&& (7 : Int64)) - (4 : Int64))), .second, .val (.long (((y1 &&& (7 : Int64)) - (4 : Int64)) + ((y1 >>> ((3 : Int32).toInt64 &&& 63)) &&& (3 : Int64)))), .second, .val (.long ((((y1 &&& (7 : Int64)) - (4 : Int64)) + ((y1 >>> ((3 : Int32).toInt64 &&& 63)) &&& (3 : Int64))) + ((y1 >>> ((5 : Int32).toInt64 &&& 63)) &&& (3 : Int64)))), .second, .val (.int (x2 + (x3 &&& (1 : Int32)))), .val (.int (x2 + ((x3 >>> ((1 : Int32) &&& 31)) &&& (1 : Int32)))), .val (.int (x2 + ((x3 >>> ((2 : Int32) &&& 31)) &&& (1 : Int32)))), .val (.ref b1), .val (.ref b5), .val (.ref b8), .val (.ref b12), .val (.ref b17), .unset] [(.int (own_h []))])
  refine own_if X37 hx 128 (hb hby at_121) (by decide) (by decide) (fun hc => absurd (show (own_h []) = (0 : Int32) from own_hnil) (by first | exact hc | exact not_not_intro hc)) (fun _ => ?_)
  show own_Go p e below _ T37 (mkF m 124 #[.val (.int x1), .val (.long y1), .second, .val (.long y2), .second, .val (.long y3), .second, .val (.int x2), .val (.int x3), .val (.int nq), .val (.long ((y1 &&& (7 : Int64)) - (4 : Int64))), .second, .val (.long (((y1 &&& (7 : Int64)) - (4 : Int64)) + ((y1 >>> ((3 : Int32).toInt64 &&& 63)) &&& (3 : Int64)))), .second, .val (.long ((((y1 &&& (7 : Int64)) - (4 : Int64)) + ((y1 >>> ((3 : Int32).toInt64 &&& 63)) &&& (3 : Int64))) + ((y1 >>> ((5 : Int32).toInt64 &&& 63)) &&& (3 : Int64)))), .second, .val (.int (x2 + (x3 &&& (1 : Int32)))), .val (.int (x2 + ((x3 >>> ((1 : Int32) &&& 31)) &&& (1 : Int32)))), .val (.int (x2 + ((x3 >>> ((2 : Int32) &&& 31)) &&& (1 : Int32)))), .val (.ref b1), .val (.ref b5), .val (.ref b8), .val (.ref b12), .val (.ref b17), .unset] [])
  refine own_by (fun t_ k_ => XS.iconst X37.here hx rfl (hb hby at_124) k_) ?_
  show own_Go p e below _ T37 (mkF m 125 #[.val (.int x1), .val (.long y1), .second, .val (.long y2), .second, .val (.long y3), .second, .val (.int x2), .val (.int x3), .val (.int nq), .val (.long ((y1 &&& (7 : Int64)) - (4 : Int64))), .second, .val (.long (((y1 &&& (7 : Int64)) - (4 : Int64)) + ((y1 >>> ((3 : Int32).toInt64 &&& 63)) &&& (3 : Int64)))), .second, .val (.long ((((y1 &&& (7 : Int64)) - (4 : Int64)) + ((y1 >>> ((3 : Int32).toInt64 &&& 63)) &&& (3 : Int64))) + ((y1 >>> ((5 : Int32).toInt64 &&& 63)) &&& (3 : Int64)))), .second, .val (.int (x2 + (x3 &&& (1 : Int32)))), .val (.int (x2 + ((x3 >>> ((1 : Int32) &&& 31)) &&& (1 : Int32)))), .val (.int (x2 + ((x3 >>> ((2 : Int32) &&& 31)) &&& (1 : Int32)))), .val (.ref b1), .val (.ref b5), .val (.ref b8), .val (.ref b12), .val (.ref b17), .unset] [(.int (1 : Int32))])
  refine own_by (fun t_ k_ => XS.goto X37.here hx rfl (pc0 := 125) (pc' := 129) rfl (hb hby at_125) (by decide) (by decide) k_) ?_
  show own_Go p e below _ T37 (mkF m 129 #[.val (.int x1), .val (.long y1), .second, .val (.long y2), .second, .val (.long y3), .second, .val (.int x2), .val (.int x3), .val (.int nq), .val (.long ((y1 &&& (7 : Int64)) - (4 : Int64))), .second, .val (.long (((y1 &&& (7 : Int64)) - (4 : Int64)) + ((y1 >>> ((3 : Int32).toInt64 &&& 63)) &&& (3 : Int64)))), .second, .val (.long ((((y1 &&& (7 : Int64)) - (4 : Int64)) + ((y1 >>> ((3 : Int32).toInt64 &&& 63)) &&& (3 : Int64))) + ((y1 >>> ((5 : Int32).toInt64 &&& 63)) &&& (3 : Int64)))), .second, .val (.int (x2 + (x3 &&& (1 : Int32)))), .val (.int (x2 + ((x3 >>> ((1 : Int32) &&& 31)) &&& (1 : Int32)))), .val (.int (x2 + ((x3 >>> ((2 : Int32) &&& 31)) &&& (1 : Int32)))), .val (.ref b1), .val (.ref b5), .val (.ref b8), .val (.ref b12), .val (.ref b17), .unset] [(.int (1 : Int32))])
  refine own_by (fun t_ k_ => XS.istore X37.here hx rfl (hb hby at_129) rfl (l' := #[.val (.int x1), .val (.long y1), .second, .val (.long y2), .second, .val (.long y3), .second, .val (.int x2), .val (.int x3), .val (.int nq), .val (.long ((y1 &&& (7 : Int64)) - (4 : Int64))), .second, .val (.long (((y1 &&& (7 : Int64)) - (4 : Int64)) + ((y1 >>> ((3 : Int32).toInt64 &&& 63)) &&& (3 : Int64)))), .second, .val (.long ((((y1 &&& (7 : Int64)) - (4 : Int64)) + ((y1 >>> ((3 : Int32).toInt64 &&& 63)) &&& (3 : Int64))) + ((y1 >>> ((5 : Int32).toInt64 &&& 63)) &&& (3 : Int64)))), .second, .val (.int (x2 + (x3 &&& (1 : Int32)))), .val (.int (x2 + ((x3 >>> ((1 : Int32) &&& 31)) &&& (1 : Int32)))), .val (.int (x2 + ((x3 >>> ((2 : Int32) &&& 31)) &&& (1 : Int32)))), .val (.ref b1), .val (.ref b5), .val (.ref b8), .val (.ref b12), .val (.ref b17), .val (.int (1 : Int32))]) rfl k_) ?_
  rcases own_l4 (h_nq ▸ (own_m3 _).1) (h_nq ▸ (own_m3 _).2) with rfl | rfl | rfl | rfl
  · show own_Go p e below _ T37 (mkF m 131 #[.val (.int x1), .val (.long y1), .second, .val (.long y2), .second, .val (.long y3), .second, .val (.int x2), .val (.int x3), .val (.int (0 : Int32)), .val (.long ((y1 &&& (7 : Int64)) - (4 : Int64))), .second, .val (.long (((y1 &&& (7 : Int64)) - (4 : Int64)) + ((y1 >>> ((3 : Int32).toInt64 &&& 63)) &&& (3 : Int64)))), .second, .val (.long ((((y1 &&& (7 : Int64)) - (4 : Int64)) + ((y1 >>> ((3 : Int32).toInt64 &&& 63)) &&& (3 : Int64))) + ((y1 >>> ((5 : Int32).toInt64 &&& 63)) &&& (3 : Int64)))), .second, .val (.int (x2 + (x3 &&& (1 : Int32)))), .val (.int (x2 + ((x3 >>> ((1 : Int32) &&& 31)) &&& (1 : Int32)))), .val (.int (x2 + ((x3 >>> ((2 : Int32) &&& 31)) &&& (1 : Int32)))), .val (.ref b1), .val (.ref b5), .val (.ref b8), .val (.ref b12), .val (.ref b17), .val (.int (1 : Int32))] [])
    refine own_by (fun t_ k_ => XS.iload X37.here hx rfl (hb hby at_131) rfl k_) ?_
    show own_Go p e below _ T37 (mkF m 133 #[.val (.int x1), .val (.long y1), .second, .val (.long y2), .second, .val (.long y3), .second, .val (.int x2), .val (.int x3), .val (.int (0 : Int32)), .val (.long ((y1 &&& (7 : Int64)) - (4 : Int64))), .second, .val (.long (((y1 &&& (7 : Int64)) - (4 : Int64)) + ((y1 >>> ((3 : Int32).toInt64 &&& 63)) &&& (3 : Int64)))), .second, .val (.long ((((y1 &&& (7 : Int64)) - (4 : Int64)) + ((y1 >>> ((3 : Int32).toInt64 &&& 63)) &&& (3 : Int64))) + ((y1 >>> ((5 : Int32).toInt64 &&& 63)) &&& (3 : Int64)))), .second, .val (.int (x2 + (x3 &&& (1 : Int32)))), .val (.int (x2 + ((x3 >>> ((1 : Int32) &&& 31)) &&& (1 : Int32)))), .val (.int (x2 + ((x3 >>> ((2 : Int32) &&& 31)) &&& (1 : Int32)))), .val (.ref b1), .val (.ref b5), .val (.ref b8), .val (.ref b12), .val (.ref b17), .val (.int (1 : Int32))] [(.int (0 : Int32))])
    refine own_if X37 hx 147 (hb hby at_133) (by decide) (by decide) (fun _ => ?_) (fun hc => absurd (show ¬ (0 : Int32) < (0 : Int32) from by decide) (by first | exact hc | exact not_not_intro hc))
    show own_Go p e below _ T37 (mkF m 147 #[.val (.int x1), .val (.long y1), .second, .val (.long y2), .second, .val (.long y3), .second, .val (.int x2), .val (.int x3), .val (.int (0 : Int32)), .val (.long ((y1 &&& (7 : Int64)) - (4 : Int64))), .second, .val (.long (((y1 &&& (7 : Int64)) - (4 : Int64)) + ((y1 >>> ((3 : Int32).toInt64 &&& 63)) &&& (3 : Int64)))), .second, .val (.long ((((y1 &&& (7 : Int64)) - (4 : Int64)) + ((y1 >>> ((3 : Int32).toInt64 &&& 63)) &&& (3 : Int64))) + ((y1 >>> ((5 : Int32).toInt64 &&& 63)) &&& (3 : Int64)))), .second, .val (.int (x2 + (x3 &&& (1 : Int32)))), .val (.int (x2 + ((x3 >>> ((1 : Int32) &&& 31)) &&& (1 : Int32)))), .val (.int (x2 + ((x3 >>> ((2 : Int32) &&& 31)) &&& (1 : Int32)))), .val (.ref b1), .val (.ref b5), .val (.ref b8), .val (.ref b12), .val (.ref b17), .val (.int (1 : Int32))] [])
    refine own_by (fun t_ k_ => XS.iload X37.here hx rfl (hb hby at_147) rfl k_) ?_
    show own_Go p e below _ T37 (mkF m 149 #[.val (.int x1), .val (.long y1), .second, .val (.long y2), .second, .val (.long y3), .second, .val (.int x2), .val (.int x3), .val (.int (0 : Int32)), .val (.long ((y1 &&& (7 : Int64)) - (4 : Int64))), .second, .val (.long (((y1 &&& (7 : Int64)) - (4 : Int64)) + ((y1 >>> ((3 : Int32).toInt64 &&& 63)) &&& (3 : Int64)))), .second, .val (.long ((((y1 &&& (7 : Int64)) - (4 : Int64)) + ((y1 >>> ((3 : Int32).toInt64 &&& 63)) &&& (3 : Int64))) + ((y1 >>> ((5 : Int32).toInt64 &&& 63)) &&& (3 : Int64)))), .second, .val (.int (x2 + (x3 &&& (1 : Int32)))), .val (.int (x2 + ((x3 >>> ((1 : Int32) &&& 31)) &&& (1 : Int32)))), .val (.int (x2 + ((x3 >>> ((2 : Int32) &&& 31)) &&& (1 : Int32)))), .val (.ref b1), .val (.ref b5), .val (.ref b8), .val (.ref b12), .val (.ref b17), .val (.int (1 : Int32))] [(.int (0 : Int32))])
    refine own_by (fun t_ k_ => XS.iconst X37.here hx rfl (hb hby at_149) k_) ?_
    show own_Go p e below _ T37 (mkF m 150 #[.val (.int x1), .val (.long y1), .second, .val (.long y2), .second, .val (.long y3), .second, .val (.int x2), .val (.int x3), .val (.int (0 : Int32)), .val (.long ((y1 &&& (7 : Int64)) - (4 : Int64))), .second, .val (.long (((y1 &&& (7 : Int64)) - (4 : Int64)) + ((y1 >>> ((3 : Int32).toInt64 &&& 63)) &&& (3 : Int64)))), .second, .val (.long ((((y1 &&& (7 : Int64)) - (4 : Int64)) + ((y1 >>> ((3 : Int32).toInt64 &&& 63)) &&& (3 : Int64))) + ((y1 >>> ((5 : Int32).toInt64 &&& 63)) &&& (3 : Int64)))), .second, .val (.int (x2 + (x3 &&& (1 : Int32)))), .val (.int (x2 + ((x3 >>> ((1 : Int32) &&& 31)) &&& (1 : Int32)))), .val (.int (x2 + ((x3 >>> ((2 : Int32) &&& 31)) &&& (1 : Int32)))), .val (.ref b1), .val (.ref b5), .val (.ref b8), .val (.ref b12), .val (.ref b17), .val (.int (1 : Int32))] [(.int (1 : Int32)), (.int (0 : Int32))])
    refine own_icmp X37 hx 164 (hb hby at_150) (by decide) (by decide) (fun _ => ?_) (fun hc => absurd (show ¬ (1 : Int32) < (0 : Int32) from by decide) (by first | exact hc | exact not_not_intro hc))
    show own_Go p e below _ T37 (mkF m 164 #[.val (.int x1), .val (.long y1), .second, .val (.long y2), .second, .val (.long y3), .second, .val (.int x2), .val (.int x3), .val (.int (0 : Int32)), .val (.long ((y1 &&& (7 : Int64)) - (4 : Int64))), .second, .val (.long (((y1 &&& (7 : Int64)) - (4 : Int64)) + ((y1 >>> ((3 : Int32).toInt64 &&& 63)) &&& (3 : Int64)))), .second, .val (.long ((((y1 &&& (7 : Int64)) - (4 : Int64)) + ((y1 >>> ((3 : Int32).toInt64 &&& 63)) &&& (3 : Int64))) + ((y1 >>> ((5 : Int32).toInt64 &&& 63)) &&& (3 : Int64)))), .second, .val (.int (x2 + (x3 &&& (1 : Int32)))), .val (.int (x2 + ((x3 >>> ((1 : Int32) &&& 31)) &&& (1 : Int32)))), .val (.int (x2 + ((x3 >>> ((2 : Int32) &&& 31)) &&& (1 : Int32)))), .val (.ref b1), .val (.ref b5), .val (.ref b8), .val (.ref b12), .val (.ref b17), .val (.int (1 : Int32))] [])
    refine own_by (fun t_ k_ => XS.iload X37.here hx rfl (hb hby at_164) rfl k_) ?_
    show own_Go p e below _ T37 (mkF m 166 #[.val (.int x1), .val (.long y1), .second, .val (.long y2), .second, .val (.long y3), .second, .val (.int x2), .val (.int x3), .val (.int (0 : Int32)), .val (.long ((y1 &&& (7 : Int64)) - (4 : Int64))), .second, .val (.long (((y1 &&& (7 : Int64)) - (4 : Int64)) + ((y1 >>> ((3 : Int32).toInt64 &&& 63)) &&& (3 : Int64)))), .second, .val (.long ((((y1 &&& (7 : Int64)) - (4 : Int64)) + ((y1 >>> ((3 : Int32).toInt64 &&& 63)) &&& (3 : Int64))) + ((y1 >>> ((5 : Int32).toInt64 &&& 63)) &&& (3 : Int64)))), .second, .val (.int (x2 + (x3 &&& (1 : Int32)))), .val (.int (x2 + ((x3 >>> ((1 : Int32) &&& 31)) &&& (1 : Int32)))), .val (.int (x2 + ((x3 >>> ((2 : Int32) &&& 31)) &&& (1 : Int32)))), .val (.ref b1), .val (.ref b5), .val (.ref b8), .val (.ref b12), .val (.ref b17), .val (.int (1 : Int32))] [(.int (0 : Int32))])
    refine own_by (fun t_ k_ => XS.iconst X37.here hx rfl (hb hby at_166) k_) ?_
    show own_Go p e below _ T37 (mkF m 167 #[.val (.int x1), .val (.long y1), .second, .val (.long y2), .second, .val (.long y3), .second, .val (.int x2), .val (.int x3), .val (.int (0 : Int32)), .val (.long ((y1 &&& (7 : Int64)) - (4 : Int64))), .second, .val (.long (((y1 &&& (7 : Int64)) - (4 : Int64)) + ((y1 >>> ((3 : Int32).toInt64 &&& 63)) &&& (3 : Int64)))), .second, .val (.long ((((y1 &&& (7 : Int64)) - (4 : Int64)) + ((y1 >>> ((3 : Int32).toInt64 &&& 63)) &&& (3 : Int64))) + ((y1 >>> ((5 : Int32).toInt64 &&& 63)) &&& (3 : Int64)))), .second, .val (.int (x2 + (x3 &&& (1 : Int32)))), .val (.int (x2 + ((x3 >>> ((1 : Int32) &&& 31)) &&& (1 : Int32)))), .val (.int (x2 + ((x3 >>> ((2 : Int32) &&& 31)) &&& (1 : Int32)))), .val (.ref b1), .val (.ref b5), .val (.ref b8), .val (.ref b12), .val (.ref b17), .val (.int (1 : Int32))] [(.int (2 : Int32)), (.int (0 : Int32))])
    refine own_icmp X37 hx 181 (hb hby at_167) (by decide) (by decide) (fun _ => ?_) (fun hc => absurd (show ¬ (2 : Int32) < (0 : Int32) from by decide) (by first | exact hc | exact not_not_intro hc))
    show own_Go p e below _ T37 (mkF m 181 #[.val (.int x1), .val (.long y1), .second, .val (.long y2), .second, .val (.long y3), .second, .val (.int x2), .val (.int x3), .val (.int (0 : Int32)), .val (.long ((y1 &&& (7 : Int64)) - (4 : Int64))), .second, .val (.long (((y1 &&& (7 : Int64)) - (4 : Int64)) + ((y1 >>> ((3 : Int32).toInt64 &&& 63)) &&& (3 : Int64)))), .second, .val (.long ((((y1 &&& (7 : Int64)) - (4 : Int64)) + ((y1 >>> ((3 : Int32).toInt64 &&& 63)) &&& (3 : Int64))) + ((y1 >>> ((5 : Int32).toInt64 &&& 63)) &&& (3 : Int64)))), .second, .val (.int (x2 + (x3 &&& (1 : Int32)))), .val (.int (x2 + ((x3 >>> ((1 : Int32) &&& 31)) &&& (1 : Int32)))), .val (.int (x2 + ((x3 >>> ((2 : Int32) &&& 31)) &&& (1 : Int32)))), .val (.ref b1), .val (.ref b5), .val (.ref b8), .val (.ref b12), .val (.ref b17), .val (.int (1 : Int32))] [])
    refine own_by (fun t_ k_ => XS.iload X37.here hx rfl (hb hby at_181) rfl k_) ?_
    show own_Go p e below _ T37 (mkF m 183 #[.val (.int x1), .val (.long y1), .second, .val (.long y2), .second, .val (.long y3), .second, .val (.int x2), .val (.int x3), .val (.int (0 : Int32)), .val (.long ((y1 &&& (7 : Int64)) - (4 : Int64))), .second, .val (.long (((y1 &&& (7 : Int64)) - (4 : Int64)) + ((y1 >>> ((3 : Int32).toInt64 &&& 63)) &&& (3 : Int64)))), .second, .val (.long ((((y1 &&& (7 : Int64)) - (4 : Int64)) + ((y1 >>> ((3 : Int32).toInt64 &&& 63)) &&& (3 : Int64))) + ((y1 >>> ((5 : Int32).toInt64 &&& 63)) &&& (3 : Int64)))), .second, .val (.int (x2 + (x3 &&& (1 : Int32)))), .val (.int (x2 + ((x3 >>> ((1 : Int32) &&& 31)) &&& (1 : Int32)))), .val (.int (x2 + ((x3 >>> ((2 : Int32) &&& 31)) &&& (1 : Int32)))), .val (.ref b1), .val (.ref b5), .val (.ref b8), .val (.ref b12), .val (.ref b17), .val (.int (1 : Int32))] [(.int (1 : Int32))])
    refine own_if X37 hx 208 (hb hby at_183) (by decide) (by decide) (fun hc => absurd (show ¬ (1 : Int32) = (0 : Int32) from by decide) (by first | exact hc | exact not_not_intro hc)) (fun _ => ?_)
    show own_Go p e below _ T37 (mkF m 186 #[.val (.int x1), .val (.long y1), .second, .val (.long y2), .second, .val (.long y3), .second, .val (.int x2), .val (.int x3), .val (.int (0 : Int32)), .val (.long ((y1 &&& (7 : Int64)) - (4 : Int64))), .second, .val (.long (((y1 &&& (7 : Int64)) - (4 : Int64)) + ((y1 >>> ((3 : Int32).toInt64 &&& 63)) &&& (3 : Int64)))), .second, .val (.long ((((y1 &&& (7 : Int64)) - (4 : Int64)) + ((y1 >>> ((3 : Int32).toInt64 &&& 63)) &&& (3 : Int64))) + ((y1 >>> ((5 : Int32).toInt64 &&& 63)) &&& (3 : Int64)))), .second, .val (.int (x2 + (x3 &&& (1 : Int32)))), .val (.int (x2 + ((x3 >>> ((1 : Int32) &&& 31)) &&& (1 : Int32)))), .val (.int (x2 + ((x3 >>> ((2 : Int32) &&& 31)) &&& (1 : Int32)))), .val (.ref b1), .val (.ref b5), .val (.ref b8), .val (.ref b12), .val (.ref b17), .val (.int (1 : Int32))] [])
    refine own_by (fun t_ k_ => XS.aload X37.here hx rfl (hb hby at_186) rfl rfl k_) ?_
    show own_Go p e below _ T37 (mkF m 188 #[.val (.int x1), .val (.long y1), .second, .val (.long y2), .second, .val (.long y3), .second, .val (.int x2), .val (.int x3), .val (.int (0 : Int32)), .val (.long ((y1 &&& (7 : Int64)) - (4 : Int64))), .second, .val (.long (((y1 &&& (7 : Int64)) - (4 : Int64)) + ((y1 >>> ((3 : Int32).toInt64 &&& 63)) &&& (3 : Int64)))), .second, .val (.long ((((y1 &&& (7 : Int64)) - (4 : Int64)) + ((y1 >>> ((3 : Int32).toInt64 &&& 63)) &&& (3 : Int64))) + ((y1 >>> ((5 : Int32).toInt64 &&& 63)) &&& (3 : Int64)))), .second, .val (.int (x2 + (x3 &&& (1 : Int32)))), .val (.int (x2 + ((x3 >>> ((1 : Int32) &&& 31)) &&& (1 : Int32)))), .val (.int (x2 + ((x3 >>> ((2 : Int32) &&& 31)) &&& (1 : Int32)))), .val (.ref b1), .val (.ref b5), .val (.ref b8), .val (.ref b12), .val (.ref b17), .val (.int (1 : Int32))] [(.ref b17)])
    refine own_callV (W := 0) X37 hx hZ (y := (⟨"com/example/hedgewalk/hedgewalk/eval/GoalQueue", "hasOpen", "()Z"⟩ : MethodName)) (z := (⟨"com/example/hedgewalk/hedgewalk/eval/GoalQueue", "hasOpen", "()Z"⟩ : MethodName)) hown (own_w hw 67 rfl) (own_w hw 68 rfl) (notFace_of_selects (args := #[]) (mvT hZ (own_w hw 70 rfl))) (own_w hw 70 rfl) (own_w hw 69 rfl) (own_w hw 52 rfl) (own_w hw 71 rfl) (by decide) (by rw [hml]; rfl) (argsL := []) pd_2 rfl (a := b17) e37 Eq36 (rm9 l Z a0 hw [] b17 aH aF bk bh bg b1 ([b5, b8, b12] : List Addr) [] [] ([b5, b8, b12] : List Addr) 0 0 T26.heap n0 sz36_ HW36_) (by decide) (by decide) (Nat.le_of_eq rfl) (by decide) (by decide) (rest := []) rfl (hb hby at_188) ?_
    intro v38 T38 L38 X38 hQ38
    obtain ⟨rfl, N38q, e38⟩ := hQ38
    have N38 := Fr.app N37 N38q
    show own_Go p e below _ T38 (mkF m 191 #[.val (.int x1), .val (.long y1), .second, .val (.long y2), .second, .val (.long y3), .second, .val (.int x2), .val (.int x3), .val (.int (0 : Int32)), .val (.long ((y1 &&& (7 : Int64)) - (4 : Int64))), .second, .val (.long (((y1 &&& (7 : Int64)) - (4 : Int64)) + ((y1 >>> ((3 : Int32).toInt64 &&& 63)) &&& (3 : Int64)))), .second, .val (.long ((((y1 &&& (7 : Int64)) - (4 : Int64)) + ((y1 >>> ((3 : Int32).toInt64 &&& 63)) &&& (3 : Int64))) + ((y1 >>> ((5 : Int32).toInt64 &&& 63)) &&& (3 : Int64)))), .second, .val (.int (x2 + (x3 &&& (1 : Int32)))), .val (.int (x2 + ((x3 >>> ((1 : Int32) &&& 31)) &&& (1 : Int32)))), .val (.int (x2 + ((x3 >>> ((2 : Int32) &&& 31)) &&& (1 : Int32)))), .val (.ref b1), .val (.ref b5), .val (.ref b8), .val (.ref b12), .val (.ref b17), .val (.int (1 : Int32))] [(.int (own_h []))])
    refine own_by (fun t_ k_ => XS.iload X38.here hx rfl (hb hby at_191) rfl k_) ?_
    show own_Go p e below _ T38 (mkF m 193 #[.val (.int x1), .val (.long y1), .second, .val (.long y2), .second, .val (.long y3), .second, .val (.int x2), .val (.int x3), .val (.int (0 : Int32)), .val (.long ((y1 &&& (7 : Int64)) - (4 : Int64))), .second, .val (.long (((y1 &&& (7 : Int64)) - (4 : Int64)) + ((y1 >>> ((3 : Int32).toInt64 &&& 63)) &&& (3 : Int64)))), .second, .val (.long ((((y1 &&& (7 : Int64)) - (4 : Int64)) + ((y1 >>> ((3 : Int32).toInt64 &&& 63)) &&& (3 : Int64))) + ((y1 >>> ((5 : Int32).toInt64 &&& 63)) &&& (3 : Int64)))), .second, .val (.int (x2 + (x3 &&& (1 : Int32)))), .val (.int (x2 + ((x3 >>> ((1 : Int32) &&& 31)) &&& (1 : Int32)))), .val (.int (x2 + ((x3 >>> ((2 : Int32) &&& 31)) &&& (1 : Int32)))), .val (.ref b1), .val (.ref b5), .val (.ref b8), .val (.ref b12), .val (.ref b17), .val (.int (1 : Int32))] [(.int (0 : Int32)), (.int (own_h []))])
    refine own_if X38 hx 200 (hb hby at_193) (by decide) (by decide) (fun _ => ?_) (fun hc => absurd (show ¬ (0 : Int32) < (0 : Int32) from by decide) (by first | exact hc | exact not_not_intro hc))
    show own_Go p e below _ T38 (mkF m 200 #[.val (.int x1), .val (.long y1), .second, .val (.long y2), .second, .val (.long y3), .second, .val (.int x2), .val (.int x3), .val (.int (0 : Int32)), .val (.long ((y1 &&& (7 : Int64)) - (4 : Int64))), .second, .val (.long (((y1 &&& (7 : Int64)) - (4 : Int64)) + ((y1 >>> ((3 : Int32).toInt64 &&& 63)) &&& (3 : Int64)))), .second, .val (.long ((((y1 &&& (7 : Int64)) - (4 : Int64)) + ((y1 >>> ((3 : Int32).toInt64 &&& 63)) &&& (3 : Int64))) + ((y1 >>> ((5 : Int32).toInt64 &&& 63)) &&& (3 : Int64)))), .second, .val (.int (x2 + (x3 &&& (1 : Int32)))), .val (.int (x2 + ((x3 >>> ((1 : Int32) &&& 31)) &&& (1 : Int32)))), .val (.int (x2 + ((x3 >>> ((2 : Int32) &&& 31)) &&& (1 : Int32)))), .val (.ref b1), .val (.ref b5), .val (.ref b8), .val (.ref b12), .val (.ref b17), .val (.int (1 : Int32))] [(.int (own_h []))])
    refine own_by (fun t_ k_ => XS.iconst X38.here hx rfl (hb hby at_200) k_) ?_
    show own_Go p e below _ T38 (mkF m 201 #[.val (.int x1), .val (.long y1), .second, .val (.long y2), .second, .val (.long y3), .second, .val (.int x2), .val (.int x3), .val (.int (0 : Int32)), .val (.long ((y1 &&& (7 : Int64)) - (4 : Int64))), .second, .val (.long (((y1 &&& (7 : Int64)) - (4 : Int64)) + ((y1 >>> ((3 : Int32).toInt64 &&& 63)) &&& (3 : Int64)))), .second, .val (.long ((((y1 &&& (7 : Int64)) - (4 : Int64)) + ((y1 >>> ((3 : Int32).toInt64 &&& 63)) &&& (3 : Int64))) + ((y1 >>> ((5 : Int32).toInt64 &&& 63)) &&& (3 : Int64)))), .second, .val (.int (x2 + (x3 &&& (1 : Int32)))), .val (.int (x2 + ((x3 >>> ((1 : Int32) &&& 31)) &&& (1 : Int32)))), .val (.int (x2 + ((x3 >>> ((2 : Int32) &&& 31)) &&& (1 : Int32)))), .val (.ref b1), .val (.ref b5), .val (.ref b8), .val (.ref b12), .val (.ref b17), .val (.int (1 : Int32))] [(.int (0 : Int32)), (.int (own_h []))])
    refine own_icmp X38 hx 208 (hb hby at_201) (by decide) (by decide) (fun hc => absurd (show (own_h []) = (0 : Int32) from own_hnil) (by first | exact hc | exact not_not_intro hc)) (fun _ => ?_)
    show own_Go p e below _ T38 (mkF m 204 #[.val (.int x1), .val (.long y1), .second, .val (.long y2), .second, .val (.long y3), .second, .val (.int x2), .val (.int x3), .val (.int (0 : Int32)), .val (.long ((y1 &&& (7 : Int64)) - (4 : Int64))), .second, .val (.long (((y1 &&& (7 : Int64)) - (4 : Int64)) + ((y1 >>> ((3 : Int32).toInt64 &&& 63)) &&& (3 : Int64)))), .second, .val (.long ((((y1 &&& (7 : Int64)) - (4 : Int64)) + ((y1 >>> ((3 : Int32).toInt64 &&& 63)) &&& (3 : Int64))) + ((y1 >>> ((5 : Int32).toInt64 &&& 63)) &&& (3 : Int64)))), .second, .val (.int (x2 + (x3 &&& (1 : Int32)))), .val (.int (x2 + ((x3 >>> ((1 : Int32) &&& 31)) &&& (1 : Int32)))), .val (.int (x2 + ((x3 >>> ((2 : Int32) &&& 31)) &&& (1 : Int32)))), .val (.ref b1), .val (.ref b5), .val (.ref b8), .val (.ref b12), .val (.ref b17), .val (.int (1 : Int32))] [])
    refine own_by (fun t_ k_ => XS.iconst X38.here hx rfl (hb hby at_204) k_) ?_
    show own_Go p e below _ T38 (mkF m 205 #[.val (.int x1), .val (.long y1), .second, .val (.long y2), .second, .val (.long y3), .second, .val (.int x2), .val (.int x3), .val (.int (0 : Int32)), .val (.long ((y1 &&& (7 : Int64)) - (4 : Int64))), .second, .val (.long (((y1 &&& (7 : Int64)) - (4 : Int64)) + ((y1 >>> ((3 : Int32).toInt64 &&& 63)) &&& (3 : Int64)))), .second, .val (.long ((((y1 &&& (7 : Int64)) - (4 : Int64)) + ((y1 >>> ((3 : Int32).toInt64 &&& 63)) &&& (3 : Int64))) + ((y1 >>> ((5 : Int32).toInt64 &&& 63)) &&& (3 : Int64)))), .second, .val (.int (x2 + (x3 &&& (1 : Int32)))), .val (.int (x2 + ((x3 >>> ((1 : Int32) &&& 31)) &&& (1 : Int32)))), .val (.int (x2 + ((x3 >>> ((2 : Int32) &&& 31)) &&& (1 : Int32)))), .val (.ref b1), .val (.ref b5), .val (.ref b8), .val (.ref b12), .val (.ref b17), .val (.int (1 : Int32))] [(.int (1 : Int32))])
    refine own_by (fun t_ k_ => XS.goto X38.here hx rfl (pc0 := 205) (pc' := 209) rfl (hb hby at_205) (by decide) (by decide) k_) ?_
    show own_Go p e below _ T38 (mkF m 209 #[.val (.int x1), .val (.long y1), .second, .val (.long y2), .second, .val (.long y3), .second, .val (.int x2), .val (.int x3), .val (.int (0 : Int32)), .val (.long ((y1 &&& (7 : Int64)) - (4 : Int64))), .second, .val (.long (((y1 &&& (7 : Int64)) - (4 : Int64)) + ((y1 >>> ((3 : Int32).toInt64 &&& 63)) &&& (3 : Int64)))), .second, .val (.long ((((y1 &&& (7 : Int64)) - (4 : Int64)) + ((y1 >>> ((3 : Int32).toInt64 &&& 63)) &&& (3 : Int64))) + ((y1 >>> ((5 : Int32).toInt64 &&& 63)) &&& (3 : Int64)))), .second, .val (.int (x2 + (x3 &&& (1 : Int32)))), .val (.int (x2 + ((x3 >>> ((1 : Int32) &&& 31)) &&& (1 : Int32)))), .val (.int (x2 + ((x3 >>> ((2 : Int32) &&& 31)) &&& (1 : Int32)))), .val (.ref b1), .val (.ref b5), .val (.ref b8), .val (.ref b12), .val (.ref b17), .val (.int (1 : Int32))] [(.int (1 : Int32))])
    refine own_by (fun t_ k_ => XS.istore X38.here hx rfl (hb hby at_209) rfl (l' := #[.val (.int x1), .val (.long y1), .second, .val (.long y2), .second, .val (.long y3), .second, .val (.int x2), .val (.int x3), .val (.int (0 : Int32)), .val (.long ((y1 &&& (7 : Int64)) - (4 : Int64))), .second, .val (.long (((y1 &&& (7 : Int64)) - (4 : Int64)) + ((y1 >>> ((3 : Int32).toInt64 &&& 63)) &&& (3 : Int64)))), .second, .val (.long ((((y1 &&& (7 : Int64)) - (4 : Int64)) + ((y1 >>> ((3 : Int32).toInt64 &&& 63)) &&& (3 : Int64))) + ((y1 >>> ((5 : Int32).toInt64 &&& 63)) &&& (3 : Int64)))), .second, .val (.int (x2 + (x3 &&& (1 : Int32)))), .val (.int (x2 + ((x3 >>> ((1 : Int32) &&& 31)) &&& (1 : Int32)))), .val (.int (x2 + ((x3 >>> ((2 : Int32) &&& 31)) &&& (1 : Int32)))), .val (.ref b1), .val (.ref b5), .val (.ref b8), .val (.ref b12), .val (.ref b17), .val (.int (1 : Int32))]) rfl k_) ?_
    show own_Go p e below _ T38 (mkF m 211 #[.val (.int x1), .val (.long y1), .second, .val (.long y2), .second, .val (.long y3), .second, .val (.int x2), .val (.int x3), .val (.int (0 : Int32)), .val (.long ((y1 &&& (7 : Int64)) - (4 : Int64))), .second, .val (.long (((y1 &&& (7 : Int64)) - (4 : Int64)) + ((y1 >>> ((3 : Int32).toInt64 &&& 63)) &&& (3 : Int64)))), .second, .val (.long ((((y1 &&& (7 : Int64)) - (4 : Int64)) + ((y1 >>> ((3 : Int32).toInt64 &&& 63)) &&& (3 : Int64))) + ((y1 >>> ((5 : Int32).toInt64 &&& 63)) &&& (3 : Int64)))), .second, .val (.int (x2 + (x3 &&& (1 : Int32)))), .val (.int (x2 + ((x3 >>> ((1 : Int32) &&& 31)) &&& (1 : Int32)))), .val (.int (x2 + ((x3 >>> ((2 : Int32) &&& 31)) &&& (1 : Int32)))), .val (.ref b1), .val (.ref b5), .val (.ref b8), .val (.ref b12), .val (.ref b17), .val (.int (1 : Int32))] [])
    refine own_by (fun t_ k_ => XS.aload X38.here hx rfl (hb hby at_211) rfl rfl k_) ?_
    show own_Go p e below _ T38 (mkF m 213 #[.val (.int x1), .val (.long y1), .second, .val (.long y2), .second, .val (.long y3), .second, .val (.int x2), .val (.int x3), .val (.int (0 : Int32)), .val (.long ((y1 &&& (7 : Int64)) - (4 : Int64))), .second, .val (.long (((y1 &&& (7 : Int64)) - (4 : Int64)) + ((y1 >>> ((3 : Int32).toInt64 &&& 63)) &&& (3 : Int64)))), .second, .val (.long ((((y1 &&& (7 : Int64)) - (4 : Int64)) + ((y1 >>> ((3 : Int32).toInt64 &&& 63)) &&& (3 : Int64))) + ((y1 >>> ((5 : Int32).toInt64 &&& 63)) &&& (3 : Int64)))), .second, .val (.int (x2 + (x3 &&& (1 : Int32)))), .val (.int (x2 + ((x3 >>> ((1 : Int32) &&& 31)) &&& (1 : Int32)))), .val (.int (x2 + ((x3 >>> ((2 : Int32) &&& 31)) &&& (1 : Int32)))), .val (.ref b1), .val (.ref b5), .val (.ref b8), .val (.ref b12), .val (.ref b17), .val (.int (1 : Int32))] [(.ref b17)])
    refine own_by (fun t_ k_ => XS.aload X38.here hx rfl (hb hby at_213) rfl rfl k_) ?_
    show own_Go p e below _ T38 (mkF m 215 #[.val (.int x1), .val (.long y1), .second, .val (.long y2), .second, .val (.long y3), .second, .val (.int x2), .val (.int x3), .val (.int (0 : Int32)), .val (.long ((y1 &&& (7 : Int64)) - (4 : Int64))), .second, .val (.long (((y1 &&& (7 : Int64)) - (4 : Int64)) + ((y1 >>> ((3 : Int32).toInt64 &&& 63)) &&& (3 : Int64)))), .second, .val (.long ((((y1 &&& (7 : Int64)) - (4 : Int64)) + ((y1 >>> ((3 : Int32).toInt64 &&& 63)) &&& (3 : Int64))) + ((y1 >>> ((5 : Int32).toInt64 &&& 63)) &&& (3 : Int64)))), .second, .val (.int (x2 + (x3 &&& (1 : Int32)))), .val (.int (x2 + ((x3 >>> ((1 : Int32) &&& 31)) &&& (1 : Int32)))), .val (.int (x2 + ((x3 >>> ((2 : Int32) &&& 31)) &&& (1 : Int32)))), .val (.ref b1), .val (.ref b5), .val (.ref b8), .val (.ref b12), .val (.ref b17), .val (.int (1 : Int32))] [(.ref b1), (.ref b17)])
    refine own_by (fun t_ k_ => XS.iloadN X38.here hx rfl (hb hby at_215) rfl k_) ?_
    show own_Go p e below _ T38 (mkF m 216 #[.val (.int x1), .val (.long y1), .second, .val (.long y2), .second, .val (.long y3), .second, .val (.int x2), .val (.int x3), .val (.int (0 : Int32)), .val (.long ((y1 &&& (7 : Int64)) - (4 : Int64))), .second, .val (.long (((y1 &&& (7 : Int64)) - (4 : Int64)) + ((y1 >>> ((3 : Int32).toInt64 &&& 63)) &&& (3 : Int64)))), .second, .val (.long ((((y1 &&& (7 : Int64)) - (4 : Int64)) + ((y1 >>> ((3 : Int32).toInt64 &&& 63)) &&& (3 : Int64))) + ((y1 >>> ((5 : Int32).toInt64 &&& 63)) &&& (3 : Int64)))), .second, .val (.int (x2 + (x3 &&& (1 : Int32)))), .val (.int (x2 + ((x3 >>> ((1 : Int32) &&& 31)) &&& (1 : Int32)))), .val (.int (x2 + ((x3 >>> ((2 : Int32) &&& 31)) &&& (1 : Int32)))), .val (.ref b1), .val (.ref b5), .val (.ref b8), .val (.ref b12), .val (.ref b17), .val (.int (1 : Int32))] [(.int x1), (.ref b1), (.ref b17)])
    refine own_by (fun t_ k_ => XS.iconst X38.here hx rfl (hb hby at_216) k_) ?_
    show own_Go p e below _ T38 (mkF m 217 #[.val (.int x1), .val (.long y1), .second, .val (.long y2), .second, .val (.long y3), .second, .val (.int x2), .val (.int x3), .val (.int (0 : Int32)), .val (.long ((y1 &&& (7 : Int64)) - (4 : Int64))), .second, .val (.long (((y1 &&& (7 : Int64)) - (4 : Int64)) + ((y1 >>> ((3 : Int32).toInt64 &&& 63)) &&& (3 : Int64)))), .second, .val (.long ((((y1 &&& (7 : Int64)) - (4 : Int64)) + ((y1 >>> ((3 : Int32).toInt64 &&& 63)) &&& (3 : Int64))) + ((y1 >>> ((5 : Int32).toInt64 &&& 63)) &&& (3 : Int64)))), .second, .val (.int (x2 + (x3 &&& (1 : Int32)))), .val (.int (x2 + ((x3 >>> ((1 : Int32) &&& 31)) &&& (1 : Int32)))), .val (.int (x2 + ((x3 >>> ((2 : Int32) &&& 31)) &&& (1 : Int32)))), .val (.ref b1), .val (.ref b5), .val (.ref b8), .val (.ref b12), .val (.ref b17), .val (.int (1 : Int32))] [(.int (2 : Int32)), (.int x1), (.ref b1), (.ref b17)])
    refine own_by (fun t_ k_ => XT.ishr X38.here hx rfl (hb hby at_217) rfl k_) ?_
    show own_Go p e below _ T38 (mkF m 218 #[.val (.int x1), .val (.long y1), .second, .val (.long y2), .second, .val (.long y3), .second, .val (.int x2), .val (.int x3), .val (.int (0 : Int32)), .val (.long ((y1 &&& (7 : Int64)) - (4 : Int64))), .second, .val (.long (((y1 &&& (7 : Int64)) - (4 : Int64)) + ((y1 >>> ((3 : Int32).toInt64 &&& 63)) &&& (3 : Int64)))), .second, .val (.long ((((y1 &&& (7 : Int64)) - (4 : Int64)) + ((y1 >>> ((3 : Int32).toInt64 &&& 63)) &&& (3 : Int64))) + ((y1 >>> ((5 : Int32).toInt64 &&& 63)) &&& (3 : Int64)))), .second, .val (.int (x2 + (x3 &&& (1 : Int32)))), .val (.int (x2 + ((x3 >>> ((1 : Int32) &&& 31)) &&& (1 : Int32)))), .val (.int (x2 + ((x3 >>> ((2 : Int32) &&& 31)) &&& (1 : Int32)))), .val (.ref b1), .val (.ref b5), .val (.ref b8), .val (.ref b12), .val (.ref b17), .val (.int (1 : Int32))] [(.int (x1 >>> ((2 : Int32) &&& 31))), (.ref b1), (.ref b17)])
    refine own_by (fun t_ k_ => XS.iloadN X38.here hx rfl (hb hby at_218) rfl k_) ?_
    show own_Go p e below _ T38 (mkF m 219 #[.val (.int x1), .val (.long y1), .second, .val (.long y2), .second, .val (.long y3), .second, .val (.int x2), .val (.int x3), .val (.int (0 : Int32)), .val (.long ((y1 &&& (7 : Int64)) - (4 : Int64))), .second, .val (.long (((y1 &&& (7 : Int64)) - (4 : Int64)) + ((y1 >>> ((3 : Int32).toInt64 &&& 63)) &&& (3 : Int64)))), .second, .val (.long ((((y1 &&& (7 : Int64)) - (4 : Int64)) + ((y1 >>> ((3 : Int32).toInt64 &&& 63)) &&& (3 : Int64))) + ((y1 >>> ((5 : Int32).toInt64 &&& 63)) &&& (3 : Int64)))), .second, .val (.int (x2 + (x3 &&& (1 : Int32)))), .val (.int (x2 + ((x3 >>> ((1 : Int32) &&& 31)) &&& (1 : Int32)))), .val (.int (x2 + ((x3 >>> ((2 : Int32) &&& 31)) &&& (1 : Int32)))), .val (.ref b1), .val (.ref b5), .val (.ref b8), .val (.ref b12), .val (.ref b17), .val (.int (1 : Int32))] [(.int x1), (.int (x1 >>> ((2 : Int32) &&& 31))), (.ref b1), (.ref b17)])
    refine own_by (fun t_ k_ => XS.iconst X38.here hx rfl (hb hby at_219) k_) ?_
    show own_Go p e below _ T38 (mkF m 220 #[.val (.int x1), .val (.long y1), .second, .val (.long y2), .second, .val (.long y3), .second, .val (.int x2), .val (.int x3), .val (.int (0 : Int32)), .val (.long ((y1 &&& (7 : Int64)) - (4 : Int64))), .second, .val (.long (((y1 &&& (7 : Int64)) - (4 : Int64)) + ((y1 >>> ((3 : Int32).toInt64 &&& 63)) &&& (3 : Int64)))), .second, .val (.long ((((y1 &&& (7 : Int64)) - (4 : Int64)) + ((y1 >>> ((3 : Int32).toInt64 &&& 63)) &&& (3 : Int64))) + ((y1 >>> ((5 : Int32).toInt64 &&& 63)) &&& (3 : Int64)))), .second, .val (.int (x2 + (x3 &&& (1 : Int32)))), .val (.int (x2 + ((x3 >>> ((1 : Int32) &&& 31)) &&& (1 : Int32)))), .val (.int (x2 + ((x3 >>> ((2 : Int32) &&& 31)) &&& (1 : Int32)))), .val (.ref b1), .val (.ref b5), .val (.ref b8), .val (.ref b12), .val (.ref b17), .val (.int (1 : Int32))] [(.int (4 : Int32)), (.int x1), (.int (x1 >>> ((2 : Int32) &&& 31))), (.ref b1), (.ref b17)])
    refine own_by (fun t_ k_ => XT.ishr X38.here hx rfl (hb hby at_220) rfl k_) ?_
    show own_Go p e below _ T38 (mkF m 221 #[.val (.int x1), .val (.long y1), .second, .val (.long y2), .second, .val (.long y3), .second, .val (.int x2), .val (.int x3), .val (.int (0 : Int32)), .val (.long ((y1 &&& (7 : Int64)) - (4 : Int64))), .second, .val (.long (((y1 &&& (7 : Int64)) - (4 : Int64)) + ((y1 >>> ((3 : Int32).toInt64 &&& 63)) &&& (3 : Int64)))), .second, .val (.long ((((y1 &&& (7 : Int64)) - (4 : Int64)) + ((y1 >>> ((3 : Int32).toInt64 &&& 63)) &&& (3 : Int64))) + ((y1 >>> ((5 : Int32).toInt64 &&& 63)) &&& (3 : Int64)))), .second, .val (.int (x2 + (x3 &&& (1 : Int32)))), .val (.int (x2 + ((x3 >>> ((1 : Int32) &&& 31)) &&& (1 : Int32)))), .val (.int (x2 + ((x3 >>> ((2 : Int32) &&& 31)) &&& (1 : Int32)))), .val (.ref b1), .val (.ref b5), .val (.ref b8), .val (.ref b12), .val (.ref b17), .val (.int (1 : Int32))] [(.int (x1 >>> ((4 : Int32) &&& 31))), (.int (x1 >>> ((2 : Int32) &&& 31))), (.ref b1), (.ref b17)])
    refine own_by (fun t_ k_ => XT.lloadN X38.here hx rfl (hb hby at_221) rfl k_) ?_
    show own_Go p e below _ T38 (mkF m 222 #[.val (.int x1), .val (.long y1), .second, .val (.long y2), .second, .val (.long y3), .second, .val (.int x2), .val (.int x3), .val (.int (0 : Int32)), .val (.long ((y1 &&& (7 : Int64)) - (4 : Int64))), .second, .val (.long (((y1 &&& (7 : Int64)) - (4 : Int64)) + ((y1 >>> ((3 : Int32).toInt64 &&& 63)) &&& (3 : Int64)))), .second, .val (.long ((((y1 &&& (7 : Int64)) - (4 : Int64)) + ((y1 >>> ((3 : Int32).toInt64 &&& 63)) &&& (3 : Int64))) + ((y1 >>> ((5 : Int32).toInt64 &&& 63)) &&& (3 : Int64)))), .second, .val (.int (x2 + (x3 &&& (1 : Int32)))), .val (.int (x2 + ((x3 >>> ((1 : Int32) &&& 31)) &&& (1 : Int32)))), .val (.int (x2 + ((x3 >>> ((2 : Int32) &&& 31)) &&& (1 : Int32)))), .val (.ref b1), .val (.ref b5), .val (.ref b8), .val (.ref b12), .val (.ref b17), .val (.int (1 : Int32))] [(.long y2), (.int (x1 >>> ((4 : Int32) &&& 31))), (.int (x1 >>> ((2 : Int32) &&& 31))), (.ref b1), (.ref b17)])
    refine own_callS (W := 3) X38 hx hZ (y := (⟨"com/example/hedgewalk/hedgewalk/eval/GoalQueueHasOpenPinLaw", "limit", "(IJ)J"⟩ : MethodName)) hown (own_w hw 76 rfl) (own_w hw 77 rfl) (own_w hw 78 rfl) (own_w hw 79 rfl) (by decide) (by rw [hml]; rfl) (argsL := [(.int (x1 >>> ((4 : Int32) &&& 31))), (.long y2)]) pd_3 rfl (rm10 l Z a0 hw [] (x1 >>> ((4 : Int32) &&& 31)) y2 T26.heap n0 sz36_) (by decide) (by decide) (Nat.le_of_eq rfl) (by decide) (by decide) (rest := [(.int (x1 >>> ((2 : Int32) &&& 31))), (.ref b1), (.ref b17)]) e38 rfl (hb hby at_222) ?_
    intro v39 T39 L39 X39 hQ39
    obtain ⟨z39, rfl, N39q, e39⟩ := hQ39
    have N39 := Fr.app N38 N39q
    show own_Go p e below _ T39 (mkF m 225 #[.val (.int x1), .val (.long y1), .second, .val (.long y2), .second, .val (.long y3), .second, .val (.int x2), .val (.int x3), .val (.int (0 : Int32)), .val (.long ((y1 &&& (7 : Int64)) - (4 : Int64))), .second, .val (.long (((y1 &&& (7 : Int64)) - (4 : Int64)) + ((y1 >>> ((3 : Int32).toInt64 &&& 63)) &&& (3 : Int64)))), .second, .val (.long ((((y1 &&& (7 : Int64)) - (4 : Int64)) + ((y1 >>> ((3 : Int32).toInt64 &&& 63)) &&& (3 : Int64))) + ((y1 >>> ((5 : Int32).toInt64 &&& 63)) &&& (3 : Int64)))), .second, .val (.int (x2 + (x3 &&& (1 : Int32)))), .val (.int (x2 + ((x3 >>> ((1 : Int32) &&& 31)) &&& (1 : Int32)))), .val (.int (x2 + ((x3 >>> ((2 : Int32) &&& 31)) &&& (1 : Int32)))), .val (.ref b1), .val (.ref b5), .val (.ref b8), .val (.ref b12), .val (.ref b17), .val (.int (1 : Int32))] [(.long z39), (.int (x1 >>> ((2 : Int32) &&& 31))), (.ref b1), (.ref b17)])
    refine own_by (fun t_ k_ => XS.iload X39.here hx rfl (hb hby at_225) rfl k_) ?_
    show own_Go p e below _ T39 (mkF m 227 #[.val (.int x1), .val (.long y1), .second, .val (.long y2), .second, .val (.long y3), .second, .val (.int x2), .val (.int x3), .val (.int (0 : Int32)), .val (.long ((y1 &&& (7 : Int64)) - (4 : Int64))), .second, .val (.long (((y1 &&& (7 : Int64)) - (4 : Int64)) + ((y1 >>> ((3 : Int32).toInt64 &&& 63)) &&& (3 : Int64)))), .second, .val (.long ((((y1 &&& (7 : Int64)) - (4 : Int64)) + ((y1 >>> ((3 : Int32).toInt64 &&& 63)) &&& (3 : Int64))) + ((y1 >>> ((5 : Int32).toInt64 &&& 63)) &&& (3 : Int64)))), .second, .val (.int (x2 + (x3 &&& (1 : Int32)))), .val (.int (x2 + ((x3 >>> ((1 : Int32) &&& 31)) &&& (1 : Int32)))), .val (.int (x2 + ((x3 >>> ((2 : Int32) &&& 31)) &&& (1 : Int32)))), .val (.ref b1), .val (.ref b5), .val (.ref b8), .val (.ref b12), .val (.ref b17), .val (.int (1 : Int32))] [(.int x2), (.long z39), (.int (x1 >>> ((2 : Int32) &&& 31))), (.ref b1), (.ref b17)])
    refine own_by (fun t_ k_ => XS.iload X39.here hx rfl (hb hby at_227) rfl k_) ?_
    show own_Go p e below _ T39 (mkF m 229 #[.val (.int x1), .val (.long y1), .second, .val (.long y2), .second, .val (.long y3), .second, .val (.int x2), .val (.int x3), .val (.int (0 : Int32)), .val (.long ((y1 &&& (7 : Int64)) - (4 : Int64))), .second, .val (.long (((y1 &&& (7 : Int64)) - (4 : Int64)) + ((y1 >>> ((3 : Int32).toInt64 &&& 63)) &&& (3 : Int64)))), .second, .val (.long ((((y1 &&& (7 : Int64)) - (4 : Int64)) + ((y1 >>> ((3 : Int32).toInt64 &&& 63)) &&& (3 : Int64))) + ((y1 >>> ((5 : Int32).toInt64 &&& 63)) &&& (3 : Int64)))), .second, .val (.int (x2 + (x3 &&& (1 : Int32)))), .val (.int (x2 + ((x3 >>> ((1 : Int32) &&& 31)) &&& (1 : Int32)))), .val (.int (x2 + ((x3 >>> ((2 : Int32) &&& 31)) &&& (1 : Int32)))), .val (.ref b1), .val (.ref b5), .val (.ref b8), .val (.ref b12), .val (.ref b17), .val (.int (1 : Int32))] [(.int x3), (.int x2), (.long z39), (.int (x1 >>> ((2 : Int32) &&& 31))), (.ref b1), (.ref b17)])
    refine own_by (fun t_ k_ => XS.iconst X39.here hx rfl (hb hby at_229) k_) ?_
    show own_Go p e below _ T39 (mkF m 230 #[.val (.int x1), .val (.long y1), .second, .val (.long y2), .second, .val (.long y3), .second, .val (.int x2), .val (.int x3), .val (.int (0 : Int32)), .val (.long ((y1 &&& (7 : Int64)) - (4 : Int64))), .second, .val (.long (((y1 &&& (7 : Int64)) - (4 : Int64)) + ((y1 >>> ((3 : Int32).toInt64 &&& 63)) &&& (3 : Int64)))), .second, .val (.long ((((y1 &&& (7 : Int64)) - (4 : Int64)) + ((y1 >>> ((3 : Int32).toInt64 &&& 63)) &&& (3 : Int64))) + ((y1 >>> ((5 : Int32).toInt64 &&& 63)) &&& (3 : Int64)))), .second, .val (.int (x2 + (x3 &&& (1 : Int32)))), .val (.int (x2 + ((x3 >>> ((1 : Int32) &&& 31)) &&& (1 : Int32)))), .val (.int (x2 + ((x3 >>> ((2 : Int32) &&& 31)) &&& (1 : Int32)))), .val (.ref b1), .val (.ref b5), .val (.ref b8), .val (.ref b12), .val (.ref b17), .val (.int (1 : Int32))] [(.int (4 : Int32)), (.int x3), (.int x2), (.long z39), (.int (x1 >>> ((2 : Int32) &&& 31))), (.ref b1), (.ref b17)])
    refine own_by (fun t_ k_ => XT.ishr X39.here hx rfl (hb hby at_230) rfl k_) ?_
    show own_Go p e below _ T39 (mkF m 231 #[.val (.int x1), .val (.long y1), .second, .val (.long y2), .second, .val (.long y3), .second, .val (.int x2), .val (.int x3), .val (.int (0 : Int32)), .val (.long ((y1 &&& (7 : Int64)) - (4 : Int64))), .second, .val (.long (((y1 &&& (7 : Int64)) - (4 : Int64)) + ((y1 >>> ((3 : Int32).toInt64 &&& 63)) &&& (3 : Int64)))), .second, .val (.long ((((y1 &&& (7 : Int64)) - (4 : Int64)) + ((y1 >>> ((3 : Int32).toInt64 &&& 63)) &&& (3 : Int64))) + ((y1 >>> ((5 : Int32).toInt64 &&& 63)) &&& (3 : Int64)))), .second, .val (.int (x2 + (x3 &&& (1 : Int32)))), .val (.int (x2 + ((x3 >>> ((1 : Int32) &&& 31)) &&& (1 : Int32)))), .val (.int (x2 + ((x3 >>> ((2 : Int32) &&& 31)) &&& (1 : Int32)))), .val (.ref b1), .val (.ref b5), .val (.ref b8), .val (.ref b12), .val (.ref b17), .val (.int (1 : Int32))] [(.int (x3 >>> ((4 : Int32) &&& 31))), (.int x2), (.long z39), (.int (x1 >>> ((2 : Int32) &&& 31))), (.ref b1), (.ref b17)])
    refine own_by (fun t_ k_ => XS.iconst X39.here hx rfl (hb hby at_231) k_) ?_
    show own_Go p e below _ T39 (mkF m 232 #[.val (.int x1), .val (.long y1), .second, .val (.long y2), .second, .val (.long y3), .second, .val (.int x2), .val (.int x3), .val (.int (0 : Int32)), .val (.long ((y1 &&& (7 : Int64)) - (4 : Int64))), .second, .val (.long (((y1 &&& (7 : Int64)) - (4 : Int64)) + ((y1 >>> ((3 : Int32).toInt64 &&& 63)) &&& (3 : Int64)))), .second, .val (.long ((((y1 &&& (7 : Int64)) - (4 : Int64)) + ((y1 >>> ((3 : Int32).toInt64 &&& 63)) &&& (3 : Int64))) + ((y1 >>> ((5 : Int32).toInt64 &&& 63)) &&& (3 : Int64)))), .second, .val (.int (x2 + (x3 &&& (1 : Int32)))), .val (.int (x2 + ((x3 >>> ((1 : Int32) &&& 31)) &&& (1 : Int32)))), .val (.int (x2 + ((x3 >>> ((2 : Int32) &&& 31)) &&& (1 : Int32)))), .val (.ref b1), .val (.ref b5), .val (.ref b8), .val (.ref b12), .val (.ref b17), .val (.int (1 : Int32))] [(.int (1 : Int32)), (.int (x3 >>> ((4 : Int32) &&& 31))), (.int x2), (.long z39), (.int (x1 >>> ((2 : Int32) &&& 31))), (.ref b1), (.ref b17)])
    refine own_by (fun t_ k_ => XS.iand X39.here hx rfl (hb hby at_232) rfl k_) ?_
    show own_Go p e below _ T39 (mkF m 233 #[.val (.int x1), .val (.long y1), .second, .val (.long y2), .second, .val (.long y3), .second, .val (.int x2), .val (.int x3), .val (.int (0 : Int32)), .val (.long ((y1 &&& (7 : Int64)) - (4 : Int64))), .second, .val (.long (((y1 &&& (7 : Int64)) - (4 : Int64)) + ((y1 >>> ((3 : Int32).toInt64 &&& 63)) &&& (3 : Int64)))), .second, .val (.long ((((y1 &&& (7 : Int64)) - (4 : Int64)) + ((y1 >>> ((3 : Int32).toInt64 &&& 63)) &&& (3 : Int64))) + ((y1 >>> ((5 : Int32).toInt64 &&& 63)) &&& (3 : Int64)))), .second, .val (.int (x2 + (x3 &&& (1 : Int32)))), .val (.int (x2 + ((x3 >>> ((1 : Int32) &&& 31)) &&& (1 : Int32)))), .val (.int (x2 + ((x3 >>> ((2 : Int32) &&& 31)) &&& (1 : Int32)))), .val (.ref b1), .val (.ref b5), .val (.ref b8), .val (.ref b12), .val (.ref b17), .val (.int (1 : Int32))] [(.int ((x3 >>> ((4 : Int32) &&& 31)) &&& (1 : Int32))), (.int x2), (.long z39), (.int (x1 >>> ((2 : Int32) &&& 31))), (.ref b1), (.ref b17)])
    refine own_by (fun t_ k_ => XS.iadd X39.here hx rfl (hb hby at_233) rfl k_) ?_
    show own_Go p e below _ T39 (mkF m 234 #[.val (.int x1), .val (.long y1), .second, .val (.long y2), .second, .val (.long y3), .second, .val (.int x2), .val (.int x3), .val (.int (0 : Int32)), .val (.long ((y1 &&& (7 : Int64)) - (4 : Int64))), .second, .val (.long (((y1 &&& (7 : Int64)) - (4 : Int64)) + ((y1 >>> ((3 : Int32).toInt64 &&& 63)) &&& (3 : Int64)))), .second, .val (.long ((((y1 &&& (7 : Int64)) - (4 : Int64)) + ((y1 >>> ((3 : Int32).toInt64 &&& 63)) &&& (3 : Int64))) + ((y1 >>> ((5 : Int32).toInt64 &&& 63)) &&& (3 : Int64)))), .second, .val (.int (x2 + (x3 &&& (1 : Int32)))), .val (.int (x2 + ((x3 >>> ((1 : Int32) &&& 31)) &&& (1 : Int32)))), .val (.int (x2 + ((x3 >>> ((2 : Int32) &&& 31)) &&& (1 : Int32)))), .val (.ref b1), .val (.ref b5), .val (.ref b8), .val (.ref b12), .val (.ref b17), .val (.int (1 : Int32))] [(.int (x2 + ((x3 >>> ((4 : Int32) &&& 31)) &&& (1 : Int32)))), (.long z39), (.int (x1 >>> ((2 : Int32) &&& 31))), (.ref b1), (.ref b17)])
    refine own_callS (W := 0) X39 hx hZ (y := (⟨"com/example/hedgewalk/hedgewalk/eval/GoalQueueHasOpenPinLaw", "step", "(Lcom/example/hedgewalk/hedgewalk/eval/GoalQueue;Lcom/example/hedgewalk/hedgewalk/eval/Agenda;IJI)V"⟩ : MethodName)) hown (own_w hw 81 rfl) (own_w hw 82 rfl) (own_w hw 78 rfl) (own_w hw 83 rfl) (by decide) (by rw [hml]; rfl) (argsL := [(.ref b17), (.ref b1), (.int (x1 >>> ((2 : Int32) &&& 31))), (.long z39), (.int (x2 + ((x3 >>> ((4 : Int32) &&& 31)) &&& (1 : Int32))))]) pd_4 rfl (rm11 l Z a0 hw [] b17 b1 (x1 >>> ((2 : Int32) &&& 31)) z39 (x2 + ((x3 >>> ((4 : Int32) &&& 31)) &&& (1 : Int32))) aH aF bk bh bg ([b5, b8, b12] : List Addr) [] [] ([b5, b8, b12] : List Addr) 0 0 T26.heap n0 sz36_ HW36_) (by decide) (by decide) (Nat.le_of_eq rfl) (by decide) (by decide) (rest := []) e39 rfl (hb hby at_234) ?_
    intro v40 T40 L40 X40 hQ40
    obtain ⟨O40, s40, f40, rfl, N40q, HX40⟩ := hQ40
    have N40 := Fr.app N39 N40q
    have HW41_ : own_W Z T40.heap n0 aH aF b17 bk bh bg b1 ([b5, b8, b12] : List Addr) O40 [] ([b5, b8, b12] : List Addr) s40 f40 := HX40
    have Eq41 := HW41_.exa
    have sz41_ := HW41_.sz
    show own_Go p e below _ T40 (mkF m 237 #[.val (.int x1), .val (.long y1), .second, .val (.long y2), .second, .val (.long y3), .second, .val (.int x2), .val (.int x3), .val (.int (0 : Int32)), .val (.long ((y1 &&& (7 : Int64)) - (4 : Int64))), .second, .val (.long (((y1 &&& (7 : Int64)) - (4 : Int64)) + ((y1 >>> ((3 : Int32).toInt64 &&& 63)) &&& (3 : Int64)))), .second, .val (.long ((((y1 &&& (7 : Int64)) - (4 : Int64)) + ((y1 >>> ((3 : Int32).toInt64 &&& 63)) &&& (3 : Int64))) + ((y1 >>> ((5 : Int32).toInt64 &&& 63)) &&& (3 : Int64)))), .second, .val (.int (x2 + (x3 &&& (1 : Int32)))), .val (.int (x2 + ((x3 >>> ((1 : Int32) &&& 31)) &&& (1 : Int32)))), .val (.int (x2 + ((x3 >>> ((2 : Int32) &&& 31)) &&& (1 : Int32)))), .val (.ref b1), .val (.ref b5), .val (.ref b8), .val (.ref b12), .val (.ref b17), .val (.int (1 : Int32))] [])
    refine own_by (fun t_ k_ => XS.iload X40.here hx rfl (hb hby at_237) rfl k_) ?_
    show own_Go p e below _ T40 (mkF m 239 #[.val (.int x1), .val (.long y1), .second, .val (.long y2), .second, .val (.long y3), .second, .val (.int x2), .val (.int x3), .val (.int (0 : Int32)), .val (.long ((y1 &&& (7 : Int64)) - (4 : Int64))), .second, .val (.long (((y1 &&& (7 : Int64)) - (4 : Int64)) + ((y1 >>> ((3 : Int32).toInt64 &&& 63)) &&& (3 : Int64)))), .second, .val (.long ((((y1 &&& (7 : Int64)) - (4 : Int64)) + ((y1 >>> ((3 : Int32).toInt64 &&& 63)) &&& (3 : Int64))) + ((y1 >>> ((5 : Int32).toInt64 &&& 63)) &&& (3 : Int64)))), .second, .val (.int (x2 + (x3 &&& (1 : Int32)))), .val (.int (x2 + ((x3 >>> ((1 : Int32) &&& 31)) &&& (1 : Int32)))), .val (.int (x2 + ((x3 >>> ((2 : Int32) &&& 31)) &&& (1 : Int32)))), .val (.ref b1), .val (.ref b5), .val (.ref b8), .val (.ref b12), .val (.ref b17), .val (.int (1 : Int32))] [(.int (1 : Int32))])
    refine own_if X40 hx 265 (hb hby at_239) (by decide) (by decide) (fun hc => absurd (show ¬ (1 : Int32) = (0 : Int32) from by decide) (by first | exact hc | exact not_not_intro hc)) (fun _ => ?_)
    show own_Go p e below _ T40 (mkF m 242 #[.val (.int x1), .val (.long y1), .second, .val (.long y2), .second, .val (.long y3), .second, .val (.int x2), .val (.int x3), .val (.int (0 : Int32)), .val (.long ((y1 &&& (7 : Int64)) - (4 : Int64))), .second, .val (.long (((y1 &&& (7 : Int64)) - (4 : Int64)) + ((y1 >>> ((3 : Int32).toInt64 &&& 63)) &&& (3 : Int64)))), .second, .val (.long ((((y1 &&& (7 : Int64)) - (4 : Int64)) + ((y1 >>> ((3 : Int32).toInt64 &&& 63)) &&& (3 : Int64))) + ((y1 >>> ((5 : Int32).toInt64 &&& 63)) &&& (3 : Int64)))), .second, .val (.int (x2 + (x3 &&& (1 : Int32)))), .val (.int (x2 + ((x3 >>> ((1 : Int32) &&& 31)) &&& (1 : Int32)))), .val (.int (x2 + ((x3 >>> ((2 : Int32) &&& 31)) &&& (1 : Int32)))), .val (.ref b1), .val (.ref b5), .val (.ref b8), .val (.ref b12), .val (.ref b17), .val (.int (1 : Int32))] [])
    refine own_by (fun t_ k_ => XS.aload X40.here hx rfl (hb hby at_242) rfl rfl k_) ?_
    show own_Go p e below _ T40 (mkF m 244 #[.val (.int x1), .val (.long y1), .second, .val (.long y2), .second, .val (.long y3), .second, .val (.int x2), .val (.int x3), .val (.int (0 : Int32)), .val (.long ((y1 &&& (7 : Int64)) - (4 : Int64))), .second, .val (.long (((y1 &&& (7 : Int64)) - (4 : Int64)) + ((y1 >>> ((3 : Int32).toInt64 &&& 63)) &&& (3 : Int64)))), .second, .val (.long ((((y1 &&& (7 : Int64)) - (4 : Int64)) + ((y1 >>> ((3 : Int32).toInt64 &&& 63)) &&& (3 : Int64))) + ((y1 >>> ((5 : Int32).toInt64 &&& 63)) &&& (3 : Int64)))), .second, .val (.int (x2 + (x3 &&& (1 : Int32)))), .val (.int (x2 + ((x3 >>> ((1 : Int32) &&& 31)) &&& (1 : Int32)))), .val (.int (x2 + ((x3 >>> ((2 : Int32) &&& 31)) &&& (1 : Int32)))), .val (.ref b1), .val (.ref b5), .val (.ref b8), .val (.ref b12), .val (.ref b17), .val (.int (1 : Int32))] [(.ref b17)])
    refine own_callV (W := 0) X40 hx hZ (y := (⟨"com/example/hedgewalk/hedgewalk/eval/GoalQueue", "hasOpen", "()Z"⟩ : MethodName)) (z := (⟨"com/example/hedgewalk/hedgewalk/eval/GoalQueue", "hasOpen", "()Z"⟩ : MethodName)) hown (own_w hw 67 rfl) (own_w hw 68 rfl) (notFace_of_selects (args := #[]) (mvT hZ (own_w hw 70 rfl))) (own_w hw 70 rfl) (own_w hw 69 rfl) (own_w hw 52 rfl) (own_w hw 71 rfl) (by decide) (by rw [hml]; rfl) (argsL := []) pd_2 rfl (a := b17) rfl Eq41 (rm9 l Z a0 hw [] b17 aH aF bk bh bg b1 ([b5, b8, b12] : List Addr) O40 [] ([b5, b8, b12] : List Addr) s40 f40 T40.heap n0 sz41_ HW41_) (by decide) (by decide) (Nat.le_of_eq rfl) (by decide) (by decide) (rest := []) rfl (hb hby at_244) ?_
    intro v42 T42 L42 X42 hQ42
    obtain ⟨rfl, N42q, e42⟩ := hQ42
    have N42 := Fr.app N40 N42q
    show own_Go p e below _ T42 (mkF m 247 #[.val (.int x1), .val (.long y1), .second, .val (.long y2), .second, .val (.long y3), .second, .val (.int x2), .val (.int x3), .val (.int (0 : Int32)), .val (.long ((y1 &&& (7 : Int64)) - (4 : Int64))), .second, .val (.long (((y1 &&& (7 : Int64)) - (4 : Int64)) + ((y1 >>> ((3 : Int32).toInt64 &&& 63)) &&& (3 : Int64)))), .second, .val (.long ((((y1 &&& (7 : Int64)) - (4 : Int64)) + ((y1 >>> ((3 : Int32).toInt64 &&& 63)) &&& (3 : Int64))) + ((y1 >>> ((5 : Int32).toInt64 &&& 63)) &&& (3 : Int64)))), .second, .val (.int (x2 + (x3 &&& (1 : Int32)))), .val (.int (x2 + ((x3 >>> ((1 : Int32) &&& 31)) &&& (1 : Int32)))), .val (.int (x2 + ((x3 >>> ((2 : Int32) &&& 31)) &&& (1 : Int32)))), .val (.ref b1), .val (.ref b5), .val (.ref b8), .val (.ref b12), .val (.ref b17), .val (.int (1 : Int32))] [(.int (own_h O40))])
    refine own_by (fun t_ k_ => XS.iload X42.here hx rfl (hb hby at_247) rfl k_) ?_
    show own_Go p e below _ T42 (mkF m 249 #[.val (.int x1), .val (.long y1), .second, .val (.long y2), .second, .val (.long y3), .second, .val (.int x2), .val (.int x3), .val (.int (0 : Int32)), .val (.long ((y1 &&& (7 : Int64)) - (4 : Int64))), .second, .val (.long (((y1 &&& (7 : Int64)) - (4 : Int64)) + ((y1 >>> ((3 : Int32).toInt64 &&& 63)) &&& (3 : Int64)))), .second, .val (.long ((((y1 &&& (7 : Int64)) - (4 : Int64)) + ((y1 >>> ((3 : Int32).toInt64 &&& 63)) &&& (3 : Int64))) + ((y1 >>> ((5 : Int32).toInt64 &&& 63)) &&& (3 : Int64)))), .second, .val (.int (x2 + (x3 &&& (1 : Int32)))), .val (.int (x2 + ((x3 >>> ((1 : Int32) &&& 31)) &&& (1 : Int32)))), .val (.int (x2 + ((x3 >>> ((2 : Int32) &&& 31)) &&& (1 : Int32)))), .val (.ref b1), .val (.ref b5), .val (.ref b8), .val (.ref b12), .val (.ref b17), .val (.int (1 : Int32))] [(.int (0 : Int32)), (.int (own_h O40))])
    refine own_by (fun t_ k_ => XS.aload X42.here hx rfl (hb hby at_249) rfl rfl k_) ?_
    show own_Go p e below _ T42 (mkF m 251 #[.val (.int x1), .val (.long y1), .second, .val (.long y2), .second, .val (.long y3), .second, .val (.int x2), .val (.int x3), .val (.int (0 : Int32)), .val (.long ((y1 &&& (7 : Int64)) - (4 : Int64))), .second, .val (.long (((y1 &&& (7 : Int64)) - (4 : Int64)) + ((y1 >>> ((3 : Int32).toInt64 &&& 63)) &&& (3 : Int64)))), .second, .val (.long ((((y1 &&& (7 : Int64)) - (4 : Int64)) + ((y1 >>> ((3 : Int32).toInt64 &&& 63)) &&& (3 : Int64))) + ((y1 >>> ((5 : Int32).toInt64 &&& 63)) &&& (3 : Int64)))), .second, .val (.int (x2 + (x3 &&& (1 : Int32)))), .val (.int (x2 + ((x3 >>> ((1 : Int32) &&& 31)) &&& (1 : Int32)))), .val (.int (x2 + ((x3 >>> ((2 : Int32) &&& 31)) &&& (1 : Int32)))), .val (.ref b1), .val (.ref b5), .val (.ref b8), .val (.ref b12), .val (.ref b17), .val (.int (1 : Int32))] [(.ref b5), (.int (0 : Int32)), (.int (own_h O40))])
    refine own_by (fun t_ k_ => XS.aload X42.here hx rfl (hb hby at_251) rfl rfl k_) ?_
    show own_Go p e below _ T42 (mkF m 253 #[.val (.int x1), .val (.long y1), .second, .val (.long y2), .second, .val (.long y3), .second, .val (.int x2), .val (.int x3), .val (.int (0 : Int32)), .val (.long ((y1 &&& (7 : Int64)) - (4 : Int64))), .second, .val (.long (((y1 &&& (7 : Int64)) - (4 : Int64)) + ((y1 >>> ((3 : Int32).toInt64 &&& 63)) &&& (3 : Int64)))), .second, .val (.long ((((y1 &&& (7 : Int64)) - (4 : Int64)) + ((y1 >>> ((3 : Int32).toInt64 &&& 63)) &&& (3 : Int64))) + ((y1 >>> ((5 : Int32).toInt64 &&& 63)) &&& (3 : Int64)))), .second, .val (.int (x2 + (x3 &&& (1 : Int32)))), .val (.int (x2 + ((x3 >>> ((1 : Int32) &&& 31)) &&& (1 : Int32)))), .val (.int (x2 + ((x3 >>> ((2 : Int32) &&& 31)) &&& (1 : Int32)))), .val (.ref b1), .val (.ref b5), .val (.ref b8), .val (.ref b12), .val (.ref b17), .val (.int (1 : Int32))] [(.ref b8), (.ref b5), (.int (0 : Int32)), (.int (own_h O40))])
    refine own_by (fun t_ k_ => XS.aload X42.here hx rfl (hb hby at_253) rfl rfl k_) ?_
    show own_Go p e below _ T42 (mkF m 255 #[.val (.int x1), .val (.long y1), .second, .val (.long y2), .second, .val (.long y3), .second, .val (.int x2), .val (.int x3), .val (.int (0 : Int32)), .val (.long ((y1 &&& (7 : Int64)) - (4 : Int64))), .second, .val (.long (((y1 &&& (7 : Int64)) - (4 : Int64)) + ((y1 >>> ((3 : Int32).toInt64 &&& 63)) &&& (3 : Int64)))), .second, .val (.long ((((y1 &&& (7 : Int64)) - (4 : Int64)) + ((y1 >>> ((3 : Int32).toInt64 &&& 63)) &&& (3 : Int64))) + ((y1 >>> ((5 : Int32).toInt64 &&& 63)) &&& (3 : Int64)))), .second, .val (.int (x2 + (x3 &&& (1 : Int32)))), .val (.int (x2 + ((x3 >>> ((1 : Int32) &&& 31)) &&& (1 : Int32)))), .val (.int (x2 + ((x3 >>> ((2 : Int32) &&& 31)) &&& (1 : Int32)))), .val (.ref b1), .val (.ref b5), .val (.ref b8), .val (.ref b12), .val (.ref b17), .val (.int (1 : Int32))] [(.ref b12), (.ref b8), (.ref b5), (.int (0 : Int32)), (.int (own_h O40))])
    refine own_callS (W := 1) X42 hx hZ (y := (⟨"com/example/hedgewalk/hedgewalk/eval/GoalQueueHasOpenPinLaw", "anyOpen", "(ILcom/example/hedgewalk/hedgewalk/eval/Verdict$Told;Lcom/example/hedgewalk/hedgewalk/eval/Verdict$Told;Lcom/example/hedgewalk/hedgewalk/eval/Verdict$Told;)Z"⟩ : MethodName)) hown (own_w hw 89 rfl) (own_w hw 90 rfl) (own_w hw 78 rfl) (own_w hw 91 rfl) (by decide) (by rw [hml]; rfl) (argsL := [(.int (0 : Int32)), (.ref b5), (.ref b8), (.ref b12)]) pd_6 rfl (rm13 l Z a0 hw [] (0 : Int32) b5 b8 b12 b17 aH aF bk bh bg b1 ([b5, b8, b12] : List Addr) O40 [] ([b5, b8, b12] : List Addr) s40 f40 T40.heap n0 sz41_ HW41_ (Or.inl ⟨rfl, rfl⟩)) (by decide) (by decide) (Nat.le_of_eq rfl) (by decide) (by decide) (rest := [(.int (own_h O40))]) e42 rfl (hb hby at_255) ?_
    intro v43 T43 L43 X43 hQ43
    obtain ⟨rfl, N43q, e43⟩ := hQ43
    have N43 := Fr.app N42 N43q
    show own_Go p e below _ T43 (mkF m 258 #[.val (.int x1), .val (.long y1), .second, .val (.long y2), .second, .val (.long y3), .second, .val (.int x2), .val (.int x3), .val (.int (0 : Int32)), .val (.long ((y1 &&& (7 : Int64)) - (4 : Int64))), .second, .val (.long (((y1 &&& (7 : Int64)) - (4 : Int64)) + ((y1 >>> ((3 : Int32).toInt64 &&& 63)) &&& (3 : Int64)))), .second, .val (.long ((((y1 &&& (7 : Int64)) - (4 : Int64)) + ((y1 >>> ((3 : Int32).toInt64 &&& 63)) &&& (3 : Int64))) + ((y1 >>> ((5 : Int32).toInt64 &&& 63)) &&& (3 : Int64)))), .second, .val (.int (x2 + (x3 &&& (1 : Int32)))), .val (.int (x2 + ((x3 >>> ((1 : Int32) &&& 31)) &&& (1 : Int32)))), .val (.int (x2 + ((x3 >>> ((2 : Int32) &&& 31)) &&& (1 : Int32)))), .val (.ref b1), .val (.ref b5), .val (.ref b8), .val (.ref b12), .val (.ref b17), .val (.int (1 : Int32))] [(.int (own_h O40)), (.int (own_h O40))])
    refine own_icmp X43 hx 265 (hb hby at_258) (by decide) (by decide) (fun hc => absurd (show (own_h O40) = (own_h O40) from rfl) (by first | exact hc | exact not_not_intro hc)) (fun _ => ?_)
    show own_Go p e below _ T43 (mkF m 261 #[.val (.int x1), .val (.long y1), .second, .val (.long y2), .second, .val (.long y3), .second, .val (.int x2), .val (.int x3), .val (.int (0 : Int32)), .val (.long ((y1 &&& (7 : Int64)) - (4 : Int64))), .second, .val (.long (((y1 &&& (7 : Int64)) - (4 : Int64)) + ((y1 >>> ((3 : Int32).toInt64 &&& 63)) &&& (3 : Int64)))), .second, .val (.long ((((y1 &&& (7 : Int64)) - (4 : Int64)) + ((y1 >>> ((3 : Int32).toInt64 &&& 63)) &&& (3 : Int64))) + ((y1 >>> ((5 : Int32).toInt64 &&& 63)) &&& (3 : Int64)))), .second, .val (.int (x2 + (x3 &&& (1 : Int32)))), .val (.int (x2 + ((x3 >>> ((1 : Int32) &&& 31)) &&& (1 : Int32)))), .val (.int (x2 + ((x3 >>> ((2 : Int32) &&& 31)) &&& (1 : Int32)))), .val (.ref b1), .val (.ref b5), .val (.ref b8), .val (.ref b12), .val (.ref b17), .val (.int (1 : Int32))] [])
    refine own_by (fun t_ k_ => XS.iconst X43.here hx rfl (hb hby at_261) k_) ?_
    show own_Go p e below _ T43 (mkF m 262 #[.val (.int x1), .val (.long y1), .second, .val (.long y2), .second, .val (.long y3), .second, .val (.int x2), .val (.int x3), .val (.int (0 : Int32)), .val (.long ((y1 &&& (7 : Int64)) - (4 : Int64))), .second, .val (.long (((y1 &&& (7 : Int64)) - (4 : Int64)) + ((y1 >>> ((3 : Int32).toInt64 &&& 63)) &&& (3 : Int64)))), .second, .val (.long ((((y1 &&& (7 : Int64)) - (4 : Int64)) + ((y1 >>> ((3 : Int32).toInt64 &&& 63)) &&& (3 : Int64))) + ((y1 >>> ((5 : Int32).toInt64 &&& 63)) &&& (3 : Int64)))), .second, .val (.int (x2 + (x3 &&& (1 : Int32)))), .val (.int (x2 + ((x3 >>> ((1 : Int32) &&& 31)) &&& (1 : Int32)))), .val (.int (x2 + ((x3 >>> ((2 : Int32) &&& 31)) &&& (1 : Int32)))), .val (.ref b1), .val (.ref b5), .val (.ref b8), .val (.ref b12), .val (.ref b17), .val (.int (1 : Int32))] [(.int (1 : Int32))])
    refine own_by (fun t_ k_ => XS.goto X43.here hx rfl (pc0 := 262) (pc' := 266) rfl (hb hby at_262) (by decide) (by decide) k_) ?_
    show own_Go p e below _ T43 (mkF m 266 #[.val (.int x1), .val (.long y1), .second, .val (.long y2), .second, .val (.long y3), .second, .val (.int x2), .val (.int x3), .val (.int (0 : Int32)), .val (.long ((y1 &&& (7 : Int64)) - (4 : Int64))), .second, .val (.long (((y1 &&& (7 : Int64)) - (4 : Int64)) + ((y1 >>> ((3 : Int32).toInt64 &&& 63)) &&& (3 : Int64)))), .second, .val (.long ((((y1 &&& (7 : Int64)) - (4 : Int64)) + ((y1 >>> ((3 : Int32).toInt64 &&& 63)) &&& (3 : Int64))) + ((y1 >>> ((5 : Int32).toInt64 &&& 63)) &&& (3 : Int64)))), .second, .val (.int (x2 + (x3 &&& (1 : Int32)))), .val (.int (x2 + ((x3 >>> ((1 : Int32) &&& 31)) &&& (1 : Int32)))), .val (.int (x2 + ((x3 >>> ((2 : Int32) &&& 31)) &&& (1 : Int32)))), .val (.ref b1), .val (.ref b5), .val (.ref b8), .val (.ref b12), .val (.ref b17), .val (.int (1 : Int32))] [(.int (1 : Int32))])
    refine own_by (fun t_ k_ => XS.istore X43.here hx rfl (hb hby at_266) rfl (l' := #[.val (.int x1), .val (.long y1), .second, .val (.long y2), .second, .val (.long y3), .second, .val (.int x2), .val (.int x3), .val (.int (0 : Int32)), .val (.long ((y1 &&& (7 : Int64)) - (4 : Int64))), .second, .val (.long (((y1 &&& (7 : Int64)) - (4 : Int64)) + ((y1 >>> ((3 : Int32).toInt64 &&& 63)) &&& (3 : Int64)))), .second, .val (.long ((((y1 &&& (7 : Int64)) - (4 : Int64)) + ((y1 >>> ((3 : Int32).toInt64 &&& 63)) &&& (3 : Int64))) + ((y1 >>> ((5 : Int32).toInt64 &&& 63)) &&& (3 : Int64)))), .second, .val (.int (x2 + (x3 &&& (1 : Int32)))), .val (.int (x2 + ((x3 >>> ((1 : Int32) &&& 31)) &&& (1 : Int32)))), .val (.int (x2 + ((x3 >>> ((2 : Int32) &&& 31)) &&& (1 : Int32)))), .val (.ref b1), .val (.ref b5), .val (.ref b8), .val (.ref b12), .val (.ref b17), .val (.int (1 : Int32))]) rfl k_) ?_
    show own_Go p e below _ T43 (mkF m 268 #[.val (.int x1), .val (.long y1), .second, .val (.long y2), .second, .val (.long y3), .second, .val (.int x2), .val (.int x3), .val (.int (0 : Int32)), .val (.long ((y1 &&& (7 : Int64)) - (4 : Int64))), .second, .val (.long (((y1 &&& (7 : Int64)) - (4 : Int64)) + ((y1 >>> ((3 : Int32).toInt64 &&& 63)) &&& (3 : Int64)))), .second, .val (.long ((((y1 &&& (7 : Int64)) - (4 : Int64)) + ((y1 >>> ((3 : Int32).toInt64 &&& 63)) &&& (3 : Int64))) + ((y1 >>> ((5 : Int32).toInt64 &&& 63)) &&& (3 : Int64)))), .second, .val (.int (x2 + (x3 &&& (1 : Int32)))), .val (.int (x2 + ((x3 >>> ((1 : Int32) &&& 31)) &&& (1 : Int32)))), .val (.int (x2 + ((x3 >>> ((2 : Int32) &&& 31)) &&& (1 : Int32)))), .val (.ref b1), .val (.ref b5), .val (.ref b8), .val (.ref b12), .val (.ref b17), .val (.int (1 : Int32))] [])
    refine own_by (fun t_ k_ => XS.aload X43.here hx rfl (hb hby at_268) rfl rfl k_) ?_
    show own_Go p e below _ T43 (mkF m 270 #[.val (.int x1), .val (.long y1), .second, .val (.long y2), .second, .val (.long y3), .second, .val (.int x2), .val (.int x3), .val (.int (0 : Int32)), .val (.long ((y1 &&& (7 : Int64)) - (4 : Int64))), .second, .val (.long (((y1 &&& (7 : Int64)) - (4 : Int64)) + ((y1 >>> ((3 : Int32).toInt64 &&& 63)) &&& (3 : Int64)))), .second, .val (.long ((((y1 &&& (7 : Int64)) - (4 : Int64)) + ((y1 >>> ((3 : Int32).toInt64 &&& 63)) &&& (3 : Int64))) + ((y1 >>> ((5 : Int32).toInt64 &&& 63)) &&& (3 : Int64)))), .second, .val (.int (x2 + (x3 &&& (1 : Int32)))), .val (.int (x2 + ((x3 >>> ((1 : Int32) &&& 31)) &&& (1 : Int32)))), .val (.int (x2 + ((x3 >>> ((2 : Int32) &&& 31)) &&& (1 : Int32)))), .val (.ref b1), .val (.ref b5), .val (.ref b8), .val (.ref b12), .val (.ref b17), .val (.int (1 : Int32))] [(.ref b17)])
    refine own_by (fun t_ k_ => XS.aload X43.here hx rfl (hb hby at_270) rfl rfl k_) ?_
    show own_Go p e below _ T43 (mkF m 272 #[.val (.int x1), .val (.long y1), .second, .val (.long y2), .second, .val (.long y3), .second, .val (.int x2), .val (.int x3), .val (.int (0 : Int32)), .val (.long ((y1 &&& (7 : Int64)) - (4 : Int64))), .second, .val (.long (((y1 &&& (7 : Int64)) - (4 : Int64)) + ((y1 >>> ((3 : Int32).toInt64 &&& 63)) &&& (3 : Int64)))), .second, .val (.long ((((y1 &&& (7 : Int64)) - (4 : Int64)) + ((y1 >>> ((3 : Int32).toInt64 &&& 63)) &&& (3 : Int64))) + ((y1 >>> ((5 : Int32).toInt64 &&& 63)) &&& (3 : Int64)))), .second, .val (.int (x2 + (x3 &&& (1 : Int32)))), .val (.int (x2 + ((x3 >>> ((1 : Int32) &&& 31)) &&& (1 : Int32)))), .val (.int (x2 + ((x3 >>> ((2 : Int32) &&& 31)) &&& (1 : Int32)))), .val (.ref b1), .val (.ref b5), .val (.ref b8), .val (.ref b12), .val (.ref b17), .val (.int (1 : Int32))] [(.ref b1), (.ref b17)])
    refine own_by (fun t_ k_ => XS.iloadN X43.here hx rfl (hb hby at_272) rfl k_) ?_
    show own_Go p e below _ T43 (mkF m 273 #[.val (.int x1), .val (.long y1), .second, .val (.long y2), .second, .val (.long y3), .second, .val (.int x2), .val (.int x3), .val (.int (0 : Int32)), .val (.long ((y1 &&& (7 : Int64)) - (4 : Int64))), .second, .val (.long (((y1 &&& (7 : Int64)) - (4 : Int64)) + ((y1 >>> ((3 : Int32).toInt64 &&& 63)) &&& (3 : Int64)))), .second, .val (.long ((((y1 &&& (7 : Int64)) - (4 : Int64)) + ((y1 >>> ((3 : Int32).toInt64 &&& 63)) &&& (3 : Int64))) + ((y1 >>> ((5 : Int32).toInt64 &&& 63)) &&& (3 : Int64)))), .second, .val (.int (x2 + (x3 &&& (1 : Int32)))), .val (.int (x2 + ((x3 >>> ((1 : Int32) &&& 31)) &&& (1 : Int32)))), .val (.int (x2 + ((x3 >>> ((2 : Int32) &&& 31)) &&& (1 : Int32)))), .val (.ref b1), .val (.ref b5), .val (.ref b8), .val (.ref b12), .val (.ref b17), .val (.int (1 : Int32))] [(.int x1), (.ref b1), (.ref b17)])
    refine own_by (fun t_ k_ => XS.iconst X43.here hx rfl (hb hby at_273) k_) ?_
    show own_Go p e below _ T43 (mkF m 274 #[.val (.int x1), .val (.long y1), .second, .val (.long y2), .second, .val (.long y3), .second, .val (.int x2), .val (.int x3), .val (.int (0 : Int32)), .val (.long ((y1 &&& (7 : Int64)) - (4 : Int64))), .second, .val (.long (((y1 &&& (7 : Int64)) - (4 : Int64)) + ((y1 >>> ((3 : Int32).toInt64 &&& 63)) &&& (3 : Int64)))), .second, .val (.long ((((y1 &&& (7 : Int64)) - (4 : Int64)) + ((y1 >>> ((3 : Int32).toInt64 &&& 63)) &&& (3 : Int64))) + ((y1 >>> ((5 : Int32).toInt64 &&& 63)) &&& (3 : Int64)))), .second, .val (.int (x2 + (x3 &&& (1 : Int32)))), .val (.int (x2 + ((x3 >>> ((1 : Int32) &&& 31)) &&& (1 : Int32)))), .val (.int (x2 + ((x3 >>> ((2 : Int32) &&& 31)) &&& (1 : Int32)))), .val (.ref b1), .val (.ref b5), .val (.ref b8), .val (.ref b12), .val (.ref b17), .val (.int (1 : Int32))] [(.int (3 : Int32)), (.int x1), (.ref b1), (.ref b17)])
    refine own_by (fun t_ k_ => XT.ishr X43.here hx rfl (hb hby at_274) rfl k_) ?_
    show own_Go p e below _ T43 (mkF m 275 #[.val (.int x1), .val (.long y1), .second, .val (.long y2), .second, .val (.long y3), .second, .val (.int x2), .val (.int x3), .val (.int (0 : Int32)), .val (.long ((y1 &&& (7 : Int64)) - (4 : Int64))), .second, .val (.long (((y1 &&& (7 : Int64)) - (4 : Int64)) + ((y1 >>> ((3 : Int32).toInt64 &&& 63)) &&& (3 : Int64)))), .second, .val (.long ((((y1 &&& (7 : Int64)) - (4 : Int64)) + ((y1 >>> ((3 : Int32).toInt64 &&& 63)) &&& (3 : Int64))) + ((y1 >>> ((5 : Int32).toInt64 &&& 63)) &&& (3 : Int64)))), .second, .val (.int (x2 + (x3 &&& (1 : Int32)))), .val (.int (x2 + ((x3 >>> ((1 : Int32) &&& 31)) &&& (1 : Int32)))), .val (.int (x2 + ((x3 >>> ((2 : Int32) &&& 31)) &&& (1 : Int32)))), .val (.ref b1), .val (.ref b5), .val (.ref b8), .val (.ref b12), .val (.ref b17), .val (.int (1 : Int32))] [(.int (x1 >>> ((3 : Int32) &&& 31))), (.ref b1), (.ref b17)])
    refine own_by (fun t_ k_ => XS.iloadN X43.here hx rfl (hb hby at_275) rfl k_) ?_
    show own_Go p e below _ T43 (mkF m 276 #[.val (.int x1), .val (.long y1), .second, .val (.long y2), .second, .val (.long y3), .second, .val (.int x2), .val (.int x3), .val (.int (0 : Int32)), .val (.long ((y1 &&& (7 : Int64)) - (4 : Int64))), .second, .val (.long (((y1 &&& (7 : Int64)) - (4 : Int64)) + ((y1 >>> ((3 : Int32).toInt64 &&& 63)) &&& (3 : Int64)))), .second, .val (.long ((((y1 &&& (7 : Int64)) - (4 : Int64)) + ((y1 >>> ((3 : Int32).toInt64 &&& 63)) &&& (3 : Int64))) + ((y1 >>> ((5 : Int32).toInt64 &&& 63)) &&& (3 : Int64)))), .second, .val (.int (x2 + (x3 &&& (1 : Int32)))), .val (.int (x2 + ((x3 >>> ((1 : Int32) &&& 31)) &&& (1 : Int32)))), .val (.int (x2 + ((x3 >>> ((2 : Int32) &&& 31)) &&& (1 : Int32)))), .val (.ref b1), .val (.ref b5), .val (.ref b8), .val (.ref b12), .val (.ref b17), .val (.int (1 : Int32))] [(.int x1), (.int (x1 >>> ((3 : Int32) &&& 31))), (.ref b1), (.ref b17)])
    refine own_by (fun t_ k_ => XS.iconst X43.here hx rfl (hb hby at_276) k_) ?_
    show own_Go p e below _ T43 (mkF m 277 #[.val (.int x1), .val (.long y1), .second, .val (.long y2), .second, .val (.long y3), .second, .val (.int x2), .val (.int x3), .val (.int (0 : Int32)), .val (.long ((y1 &&& (7 : Int64)) - (4 : Int64))), .second, .val (.long (((y1 &&& (7 : Int64)) - (4 : Int64)) + ((y1 >>> ((3 : Int32).toInt64 &&& 63)) &&& (3 : Int64)))), .second, .val (.long ((((y1 &&& (7 : Int64)) - (4 : Int64)) + ((y1 >>> ((3 : Int32).toInt64 &&& 63)) &&& (3 : Int64))) + ((y1 >>> ((5 : Int32).toInt64 &&& 63)) &&& (3 : Int64)))), .second, .val (.int (x2 + (x3 &&& (1 : Int32)))), .val (.int (x2 + ((x3 >>> ((1 : Int32) &&& 31)) &&& (1 : Int32)))), .val (.int (x2 + ((x3 >>> ((2 : Int32) &&& 31)) &&& (1 : Int32)))), .val (.ref b1), .val (.ref b5), .val (.ref b8), .val (.ref b12), .val (.ref b17), .val (.int (1 : Int32))] [(.int (5 : Int32)), (.int x1), (.int (x1 >>> ((3 : Int32) &&& 31))), (.ref b1), (.ref b17)])
    refine own_by (fun t_ k_ => XT.ishr X43.here hx rfl (hb hby at_277) rfl k_) ?_
    show own_Go p e below _ T43 (mkF m 278 #[.val (.int x1), .val (.long y1), .second, .val (.long y2), .second, .val (.long y3), .second, .val (.int x2), .val (.int x3), .val (.int (0 : Int32)), .val (.long ((y1 &&& (7 : Int64)) - (4 : Int64))), .second, .val (.long (((y1 &&& (7 : Int64)) - (4 : Int64)) + ((y1 >>> ((3 : Int32).toInt64 &&& 63)) &&& (3 : Int64)))), .second, .val (.long ((((y1 &&& (7 : Int64)) - (4 : Int64)) + ((y1 >>> ((3 : Int32).toInt64 &&& 63)) &&& (3 : Int64))) + ((y1 >>> ((5 : Int32).toInt64 &&& 63)) &&& (3 : Int64)))), .second, .val (.int (x2 + (x3 &&& (1 : Int32)))), .val (.int (x2 + ((x3 >>> ((1 : Int32) &&& 31)) &&& (1 : Int32)))), .val (.int (x2 + ((x3 >>> ((2 : Int32) &&& 31)) &&& (1 : Int32)))), .val (.ref b1), .val (.ref b5), .val (.ref b8), .val (.ref b12), .val (.ref b17), .val (.int (1 : Int32))] [(.int (x1 >>> ((5 : Int32) &&& 31))), (.int (x1 >>> ((3 : Int32) &&& 31))), (.ref b1), (.ref b17)])
    refine own_by (fun t_ k_ => XT.lload X43.here hx rfl (hb hby at_278) rfl k_) ?_
    show own_Go p e below _ T43 (mkF m 280 #[.val (.int x1), .val (.long y1), .second, .val (.long y2), .second, .val (.long y3), .second, .val (.int x2), .val (.int x3), .val (.int (0 : Int32)), .val (.long ((y1 &&& (7 : Int64)) - (4 : Int64))), .second, .val (.long (((y1 &&& (7 : Int64)) - (4 : Int64)) + ((y1 >>> ((3 : Int32).toInt64 &&& 63)) &&& (3 : Int64)))), .second, .val (.long ((((y1 &&& (7 : Int64)) - (4 : Int64)) + ((y1 >>> ((3 : Int32).toInt64 &&& 63)) &&& (3 : Int64))) + ((y1 >>> ((5 : Int32).toInt64 &&& 63)) &&& (3 : Int64)))), .second, .val (.int (x2 + (x3 &&& (1 : Int32)))), .val (.int (x2 + ((x3 >>> ((1 : Int32) &&& 31)) &&& (1 : Int32)))), .val (.int (x2 + ((x3 >>> ((2 : Int32) &&& 31)) &&& (1 : Int32)))), .val (.ref b1), .val (.ref b5), .val (.ref b8), .val (.ref b12), .val (.ref b17), .val (.int (1 : Int32))] [(.long y3), (.int (x1 >>> ((5 : Int32) &&& 31))), (.int (x1 >>> ((3 : Int32) &&& 31))), (.ref b1), (.ref b17)])
    refine own_callS (W := 3) X43 hx hZ (y := (⟨"com/example/hedgewalk/hedgewalk/eval/GoalQueueHasOpenPinLaw", "limit", "(IJ)J"⟩ : MethodName)) hown (own_w hw 76 rfl) (own_w hw 77 rfl) (own_w hw 78 rfl) (own_w hw 79 rfl) (by decide) (by rw [hml]; rfl) (argsL := [(.int (x1 >>> ((5 : Int32) &&& 31))), (.long y3)]) pd_3 rfl (rm10 l Z a0 hw [] (x1 >>> ((5 : Int32) &&& 31)) y3 T40.heap n0 sz41_) (by decide) (by decide) (Nat.le_of_eq rfl) (by decide) (by decide) (rest := [(.int (x1 >>> ((3 : Int32) &&& 31))), (.ref b1), (.ref b17)]) e43 rfl (hb hby at_280) ?_
    intro v44 T44 L44 X44 hQ44
    obtain ⟨z44, rfl, N44q, e44⟩ := hQ44
    have N44 := Fr.app N43 N44q
    show own_Go p e below _ T44 (mkF m 283 #[.val (.int x1), .val (.long y1), .second, .val (.long y2), .second, .val (.long y3), .second, .val (.int x2), .val (.int x3), .val (.int (0 : Int32)), .val (.long ((y1 &&& (7 : Int64)) - (4 : Int64))), .second, .val (.long (((y1 &&& (7 : Int64)) - (4 : Int64)) + ((y1 >>> ((3 : Int32).toInt64 &&& 63)) &&& (3 : Int64)))), .second, .val (.long ((((y1 &&& (7 : Int64)) - (4 : Int64)) + ((y1 >>> ((3 : Int32).toInt64 &&& 63)) &&& (3 : Int64))) + ((y1 >>> ((5 : Int32).toInt64 &&& 63)) &&& (3 : Int64)))), .second, .val (.int (x2 + (x3 &&& (1 : Int32)))), .val (.int (x2 + ((x3 >>> ((1 : Int32) &&& 31)) &&& (1 : Int32)))), .val (.int (x2 + ((x3 >>> ((2 : Int32) &&& 31)) &&& (1 : Int32)))), .val (.ref b1), .val (.ref b5), .val (.ref b8), .val (.ref b12), .val (.ref b17), .val (.int (1 : Int32))] [(.long z44), (.int (x1 >>> ((3 : Int32) &&& 31))), (.ref b1), (.ref b17)])
    refine own_by (fun t_ k_ => XS.iload X44.here hx rfl (hb hby at_283) rfl k_) ?_
    show own_Go p e below _ T44 (mkF m 285 #[.val (.int x1), .val (.long y1), .second, .val (.long y2), .second, .val (.long y3), .second, .val (.int x2), .val (.int x3), .val (.int (0 : Int32)), .val (.long ((y1 &&& (7 : Int64)) - (4 : Int64))), .second, .val (.long (((y1 &&& (7 : Int64)) - (4 : Int64)) + ((y1 >>> ((3 : Int32).toInt64 &&& 63)) &&& (3 : Int64)))), .second, .val (.long ((((y1 &&& (7 : Int64)) - (4 : Int64)) + ((y1 >>> ((3 : Int32).toInt64 &&& 63)) &&& (3 : Int64))) + ((y1 >>> ((5 : Int32).toInt64 &&& 63)) &&& (3 : Int64)))), .second, .val (.int (x2 + (x3 &&& (1 : Int32)))), .val (.int (x2 + ((x3 >>> ((1 : Int32) &&& 31)) &&& (1 : Int32)))), .val (.int (x2 + ((x3 >>> ((2 : Int32) &&& 31)) &&& (1 : Int32)))), .val (.ref b1), .val (.ref b5), .val (.ref b8), .val (.ref b12), .val (.ref b17), .val (.int (1 : Int32))] [(.int x2), (.long z44), (.int (x1 >>> ((3 : Int32) &&& 31))), (.ref b1), (.ref b17)])
    refine own_by (fun t_ k_ => XS.iload X44.here hx rfl (hb hby at_285) rfl k_) ?_
    show own_Go p e below _ T44 (mkF m 287 #[.val (.int x1), .val (.long y1), .second, .val (.long y2), .second, .val (.long y3), .second, .val (.int x2), .val (.int x3), .val (.int (0 : Int32)), .val (.long ((y1 &&& (7 : Int64)) - (4 : Int64))), .second, .val (.long (((y1 &&& (7 : Int64)) - (4 : Int64)) + ((y1 >>> ((3 : Int32).toInt64 &&& 63)) &&& (3 : Int64)))), .second, .val (.long ((((y1 &&& (7 : Int64)) - (4 : Int64)) + ((y1 >>> ((3 : Int32).toInt64 &&& 63)) &&& (3 : Int64))) + ((y1 >>> ((5 : Int32).toInt64 &&& 63)) &&& (3 : Int64)))), .second, .val (.int (x2 + (x3 &&& (1 : Int32)))), .val (.int (x2 + ((x3 >>> ((1 : Int32) &&& 31)) &&& (1 : Int32)))), .val (.int (x2 + ((x3 >>> ((2 : Int32) &&& 31)) &&& (1 : Int32)))), .val (.ref b1), .val (.ref b5), .val (.ref b8), .val (.ref b12), .val (.ref b17), .val (.int (1 : Int32))] [(.int x3), (.int x2), (.long z44), (.int (x1 >>> ((3 : Int32) &&& 31))), (.ref b1), (.ref b17)])
    refine own_by (fun t_ k_ => XS.iconst X44.here hx rfl (hb hby at_287) k_) ?_
    show own_Go p e below _ T44 (mkF m 288 #[.val (.int x1), .val (.long y1), .second, .val (.long y2), .second, .val (.long y3), .second, .val (.int x2), .val (.int x3), .val (.int (0 : Int32)), .val (.long ((y1 &&& (7 : Int64)) - (4 : Int64))), .second, .val (.long (((y1 &&& (7 : Int64)) - (4 : Int64)) + ((y1 >>> ((3 : Int32).toInt64 &&& 63)) &&& (3 : Int64)))), .second, .val (.long ((((y1 &&& (7 : Int64)) - (4 : Int64)) + ((y1 >>> ((3 : Int32).toInt64 &&& 63)) &&& (3 : Int64))) + ((y1 >>> ((5 : Int32).toInt64 &&& 63)) &&& (3 : Int64)))), .second, .val (.int (x2 + (x3 &&& (1 : Int32)))), .val (.int (x2 + ((x3 >>> ((1 : Int32) &&& 31)) &&& (1 : Int32)))), .val (.int (x2 + ((x3 >>> ((2 : Int32) &&& 31)) &&& (1 : Int32)))), .val (.ref b1), .val (.ref b5), .val (.ref b8), .val (.ref b12), .val (.ref b17), .val (.int (1 : Int32))] [(.int (5 : Int32)), (.int x3), (.int x2), (.long z44), (.int (x1 >>> ((3 : Int32) &&& 31))), (.ref b1), (.ref b17)])
    refine own_by (fun t_ k_ => XT.ishr X44.here hx rfl (hb hby at_288) rfl k_) ?_
    show own_Go p e below _ T44 (mkF m 289 #[.val (.int x1), .val (.long y1), .second, .val (.long y2), .second, .val (.long y3), .second, .val (.int x2), .val (.int x3), .val (.int (0 : Int32)), .val (.long ((y1 &&& (7 : Int64)) - (4 : Int64))), .second, .val (.long (((y1 &&& (7 : Int64)) - (4 : Int64)) + ((y1 >>> ((3 : Int32).toInt64 &&& 63)) &&& (3 : Int64)))), .second, .val (.long ((((y1 &&& (7 : Int64)) - (4 : Int64)) + ((y1 >>> ((3 : Int32).toInt64 &&& 63)) &&& (3 : Int64))) + ((y1 >>> ((5 : Int32).toInt64 &&& 63)) &&& (3 : Int64)))), .second, .val (.int (x2 + (x3 &&& (1 : Int32)))), .val (.int (x2 + ((x3 >>> ((1 : Int32) &&& 31)) &&& (1 : Int32)))), .val (.int (x2 + ((x3 >>> ((2 : Int32) &&& 31)) &&& (1 : Int32)))), .val (.ref b1), .val (.ref b5), .val (.ref b8), .val (.ref b12), .val (.ref b17), .val (.int (1 : Int32))] [(.int (x3 >>> ((5 : Int32) &&& 31))), (.int x2), (.long z44), (.int (x1 >>> ((3 : Int32) &&& 31))), (.ref b1), (.ref b17)])
    refine own_by (fun t_ k_ => XS.iconst X44.here hx rfl (hb hby at_289) k_) ?_
    show own_Go p e below _ T44 (mkF m 290 #[.val (.int x1), .val (.long y1), .second, .val (.long y2), .second, .val (.long y3), .second, .val (.int x2), .val (.int x3), .val (.int (0 : Int32)), .val (.long ((y1 &&& (7 : Int64)) - (4 : Int64))), .second, .val (.long (((y1 &&& (7 : Int64)) - (4 : Int64)) + ((y1 >>> ((3 : Int32).toInt64 &&& 63)) &&& (3 : Int64)))), .second, .val (.long ((((y1 &&& (7 : Int64)) - (4 : Int64)) + ((y1 >>> ((3 : Int32).toInt64 &&& 63)) &&& (3 : Int64))) + ((y1 >>> ((5 : Int32).toInt64 &&& 63)) &&& (3 : Int64)))), .second, .val (.int (x2 + (x3 &&& (1 : Int32)))), .val (.int (x2 + ((x3 >>> ((1 : Int32) &&& 31)) &&& (1 : Int32)))), .val (.int (x2 + ((x3 >>> ((2 : Int32) &&& 31)) &&& (1 : Int32)))), .val (.ref b1), .val (.ref b5), .val (.ref b8), .val (.ref b12), .val (.ref b17), .val (.int (1 : Int32))] [(.int (1 : Int32)), (.int (x3 >>> ((5 : Int32) &&& 31))), (.int x2), (.long z44), (.int (x1 >>> ((3 : Int32) &&& 31))), (.ref b1), (.ref b17)])
    refine own_by (fun t_ k_ => XS.iand X44.here hx rfl (hb hby at_290) rfl k_) ?_
    show own_Go p e below _ T44 (mkF m 291 #[.val (.int x1), .val (.long y1), .second, .val (.long y2), .second, .val (.long y3), .second, .val (.int x2), .val (.int x3), .val (.int (0 : Int32)), .val (.long ((y1 &&& (7 : Int64)) - (4 : Int64))), .second, .val (.long (((y1 &&& (7 : Int64)) - (4 : Int64)) + ((y1 >>> ((3 : Int32).toInt64 &&& 63)) &&& (3 : Int64)))), .second, .val (.long ((((y1 &&& (7 : Int64)) - (4 : Int64)) + ((y1 >>> ((3 : Int32).toInt64 &&& 63)) &&& (3 : Int64))) + ((y1 >>> ((5 : Int32).toInt64 &&& 63)) &&& (3 : Int64)))), .second, .val (.int (x2 + (x3 &&& (1 : Int32)))), .val (.int (x2 + ((x3 >>> ((1 : Int32) &&& 31)) &&& (1 : Int32)))), .val (.int (x2 + ((x3 >>> ((2 : Int32) &&& 31)) &&& (1 : Int32)))), .val (.ref b1), .val (.ref b5), .val (.ref b8), .val (.ref b12), .val (.ref b17), .val (.int (1 : Int32))] [(.int ((x3 >>> ((5 : Int32) &&& 31)) &&& (1 : Int32))), (.int x2), (.long z44), (.int (x1 >>> ((3 : Int32) &&& 31))), (.ref b1), (.ref b17)])
    refine own_by (fun t_ k_ => XS.iadd X44.here hx rfl (hb hby at_291) rfl k_) ?_
    show own_Go p e below _ T44 (mkF m 292 #[.val (.int x1), .val (.long y1), .second, .val (.long y2), .second, .val (.long y3), .second, .val (.int x2), .val (.int x3), .val (.int (0 : Int32)), .val (.long ((y1 &&& (7 : Int64)) - (4 : Int64))), .second, .val (.long (((y1 &&& (7 : Int64)) - (4 : Int64)) + ((y1 >>> ((3 : Int32).toInt64 &&& 63)) &&& (3 : Int64)))), .second, .val (.long ((((y1 &&& (7 : Int64)) - (4 : Int64)) + ((y1 >>> ((3 : Int32).toInt64 &&& 63)) &&& (3 : Int64))) + ((y1 >>> ((5 : Int32).toInt64 &&& 63)) &&& (3 : Int64)))), .second, .val (.int (x2 + (x3 &&& (1 : Int32)))), .val (.int (x2 + ((x3 >>> ((1 : Int32) &&& 31)) &&& (1 : Int32)))), .val (.int (x2 + ((x3 >>> ((2 : Int32) &&& 31)) &&& (1 : Int32)))), .val (.ref b1), .val (.ref b5), .val (.ref b8), .val (.ref b12), .val (.ref b17), .val (.int (1 : Int32))] [(.int (x2 + ((x3 >>> ((5 : Int32) &&& 31)) &&& (1 : Int32)))), (.long z44), (.int (x1 >>> ((3 : Int32) &&& 31))), (.ref b1), (.ref b17)])
    refine own_callS (W := 0) X44 hx hZ (y := (⟨"com/example/hedgewalk/hedgewalk/eval/GoalQueueHasOpenPinLaw", "step", "(Lcom/example/hedgewalk/hedgewalk/eval/GoalQueue;Lcom/example/hedgewalk/hedgewalk/eval/Agenda;IJI)V"⟩ : MethodName)) hown (own_w hw 81 rfl) (own_w hw 82 rfl) (own_w hw 78 rfl) (own_w hw 83 rfl) (by decide) (by rw [hml]; rfl) (argsL := [(.ref b17), (.ref b1), (.int (x1 >>> ((3 : Int32) &&& 31))), (.long z44), (.int (x2 + ((x3 >>> ((5 : Int32) &&& 31)) &&& (1 : Int32))))]) pd_4 rfl (rm11 l Z a0 hw [] b17 b1 (x1 >>> ((3 : Int32) &&& 31)) z44 (x2 + ((x3 >>> ((5 : Int32) &&& 31)) &&& (1 : Int32))) aH aF bk bh bg ([b5, b8, b12] : List Addr) O40 [] ([b5, b8, b12] : List Addr) s40 f40 T40.heap n0 sz41_ HW41_) (by decide) (by decide) (Nat.le_of_eq rfl) (by decide) (by decide) (rest := []) e44 rfl (hb hby at_292) ?_
    intro v45 T45 L45 X45 hQ45
    obtain ⟨O45, s45, f45, rfl, N45q, HX45⟩ := hQ45
    have N45 := Fr.app N44 N45q
    have HW46_ : own_W Z T45.heap n0 aH aF b17 bk bh bg b1 ([b5, b8, b12] : List Addr) O45 [] ([b5, b8, b12] : List Addr) s45 f45 := HX45
    have Eq46 := HW46_.exa
    have sz46_ := HW46_.sz
    show own_Go p e below _ T45 (mkF m 295 #[.val (.int x1), .val (.long y1), .second, .val (.long y2), .second, .val (.long y3), .second, .val (.int x2), .val (.int x3), .val (.int (0 : Int32)), .val (.long ((y1 &&& (7 : Int64)) - (4 : Int64))), .second, .val (.long (((y1 &&& (7 : Int64)) - (4 : Int64)) + ((y1 >>> ((3 : Int32).toInt64 &&& 63)) &&& (3 : Int64)))), .second, .val (.long ((((y1 &&& (7 : Int64)) - (4 : Int64)) + ((y1 >>> ((3 : Int32).toInt64 &&& 63)) &&& (3 : Int64))) + ((y1 >>> ((5 : Int32).toInt64 &&& 63)) &&& (3 : Int64)))), .second, .val (.int (x2 + (x3 &&& (1 : Int32)))), .val (.int (x2 + ((x3 >>> ((1 : Int32) &&& 31)) &&& (1 : Int32)))), .val (.int (x2 + ((x3 >>> ((2 : Int32) &&& 31)) &&& (1 : Int32)))), .val (.ref b1), .val (.ref b5), .val (.ref b8), .val (.ref b12), .val (.ref b17), .val (.int (1 : Int32))] [])
    refine own_by (fun t_ k_ => XS.iload X45.here hx rfl (hb hby at_295) rfl k_) ?_
    show own_Go p e below _ T45 (mkF m 297 #[.val (.int x1), .val (.long y1), .second, .val (.long y2), .second, .val (.long y3), .second, .val (.int x2), .val (.int x3), .val (.int (0 : Int32)), .val (.long ((y1 &&& (7 : Int64)) - (4 : Int64))), .second, .val (.long (((y1 &&& (7 : Int64)) - (4 : Int64)) + ((y1 >>> ((3 : Int32).toInt64 &&& 63)) &&& (3 : Int64)))), .second, .val (.long ((((y1 &&& (7 : Int64)) - (4 : Int64)) + ((y1 >>> ((3 : Int32).toInt64 &&& 63)) &&& (3 : Int64))) + ((y1 >>> ((5 : Int32).toInt64 &&& 63)) &&& (3 : Int64)))), .second, .val (.int (x2 + (x3 &&& (1 : Int32)))), .val (.int (x2 + ((x3 >>> ((1 : Int32) &&& 31)) &&& (1 : Int32)))), .val (.int (x2 + ((x3 >>> ((2 : Int32) &&& 31)) &&& (1 : Int32)))), .val (.ref b1), .val (.ref b5), .val (.ref b8), .val (.ref b12), .val (.ref b17), .val (.int (1 : Int32))] [(.int (1 : Int32))])
    refine own_if X45 hx 323 (hb hby at_297) (by decide) (by decide) (fun hc => absurd (show ¬ (1 : Int32) = (0 : Int32) from by decide) (by first | exact hc | exact not_not_intro hc)) (fun _ => ?_)
    show own_Go p e below _ T45 (mkF m 300 #[.val (.int x1), .val (.long y1), .second, .val (.long y2), .second, .val (.long y3), .second, .val (.int x2), .val (.int x3), .val (.int (0 : Int32)), .val (.long ((y1 &&& (7 : Int64)) - (4 : Int64))), .second, .val (.long (((y1 &&& (7 : Int64)) - (4 : Int64)) + ((y1 >>> ((3 : Int32).toInt64 &&& 63)) &&& (3 : Int64)))), .second, .val (.long ((((y1 &&& (7 : Int64)) - (4 : Int64)) + ((y1 >>> ((3 : Int32).toInt64 &&& 63)) &&& (3 : Int64))) + ((y1 >>> ((5 : Int32).toInt64 &&& 63)) &&& (3 : Int64)))), .second, .val (.int (x2 + (x3 &&& (1 : Int32)))), .val (.int (x2 + ((x3 >>> ((1 : Int32) &&& 31)) &&& (1 : Int32)))), .val (.int (x2 + ((x3 >>> ((2 : Int32) &&& 31)) &&& (1 : Int32)))), .val (.ref b1), .val (.ref b5), .val (.ref b8), .val (.ref b12), .val (.ref b17), .val (.int (1 : Int32))] [])
    refine own_by (fun t_ k_ => XS.aload X45.here hx rfl (hb hby at_300) rfl rfl k_) ?_
    show own_Go p e below _ T45 (mkF m 302 #[.val (.int x1), .val (.long y1), .second, .val (.long y2), .second, .val (.long y3), .second, .val (.int x2), .val (.int x3), .val (.int (0 : Int32)), .val (.long ((y1 &&& (7 : Int64)) - (4 : Int64))), .second, .val (.long (((y1 &&& (7 : Int64)) - (4 : Int64)) + ((y1 >>> ((3 : Int32).toInt64 &&& 63)) &&& (3 : Int64)))), .second, .val (.long ((((y1 &&& (7 : Int64)) - (4 : Int64)) + ((y1 >>> ((3 : Int32).toInt64 &&& 63)) &&& (3 : Int64))) + ((y1 >>> ((5 : Int32).toInt64 &&& 63)) &&& (3 : Int64)))), .second, .val (.int (x2 + (x3 &&& (1 : Int32)))), .val (.int (x2 + ((x3 >>> ((1 : Int32) &&& 31)) &&& (1 : Int32)))), .val (.int (x2 + ((x3 >>> ((2 : Int32) &&& 31)) &&& (1 : Int32)))), .val (.ref b1), .val (.ref b5), .val (.ref b8), .val (.ref b12), .val (.ref b17), .val (.int (1 : Int32))] [(.ref b17)])
    refine own_callV (W := 0) X45 hx hZ (y := (⟨"com/example/hedgewalk/hedgewalk/eval/GoalQueue", "hasOpen", "()Z"⟩ : MethodName)) (z := (⟨"com/example/hedgewalk/hedgewalk/eval/GoalQueue", "hasOpen", "()Z"⟩ : MethodName)) hown (own_w hw 67 rfl) (own_w hw 68 rfl) (notFace_of_selects (args := #[]) (mvT hZ (own_w hw 70 rfl))) (own_w hw 70 rfl) (own_w hw 69 rfl) (own_w hw 52 rfl) (own_w hw 71 rfl) (by decide) (by rw [hml]; rfl) (argsL := []) pd_2 rfl (a := b17) rfl Eq46 (rm9 l Z a0 hw [] b17 aH aF bk bh bg b1 ([b5, b8, b12] : List Addr) O45 [] ([b5, b8, b12] : List Addr) s45 f45 T45.heap n0 sz46_ HW46_) (by decide) (by decide) (Nat.le_of_eq rfl) (by decide) (by decide) (rest := []) rfl (hb hby at_302) ?_
    intro v47 T47 L47 X47 hQ47
    obtain ⟨rfl, N47q, e47⟩ := hQ47
    have N47 := Fr.app N45 N47q
    show own_Go p e below _ T47 (mkF m 305 #[.val (.int x1), .val (.long y1), .second, .val (.long y2), .second, .val (.long y3), .second, .val (.int x2), .val (.int x3), .val (.int (0 : Int32)), .val (.long ((y1 &&& (7 : Int64)) - (4 : Int64))), .second, .val (.long (((y1 &&& (7 : Int64)) - (4 : Int64)) + ((y1 >>> ((3 : Int32).toInt64 &&& 63)) &&& (3 : Int64)))), .second, .val (.long ((((y1 &&& (7 : Int64)) - (4 : Int64)) + ((y1 >>> ((3 : Int32).toInt64 &&& 63)) &&& (3 : Int64))) + ((y1 >>> ((5 : Int32).toInt64 &&& 63)) &&& (3 : Int64)))), .second, .val (.int (x2 + (x3 &&& (1 : Int32)))), .val (.int (x2 + ((x3 >>> ((1 : Int32) &&& 31)) &&& (1 : Int32)))), .val (.int (x2 + ((x3 >>> ((2 : Int32) &&& 31)) &&& (1 : Int32)))), .val (.ref b1), .val (.ref b5), .val (.ref b8), .val (.ref b12), .val (.ref b17), .val (.int (1 : Int32))] [(.int (own_h O45))])
    refine own_by (fun t_ k_ => XS.iload X47.here hx rfl (hb hby at_305) rfl k_) ?_
    show own_Go p e below _ T47 (mkF m 307 #[.val (.int x1), .val (.long y1), .second, .val (.long y2), .second, .val (.long y3), .second, .val (.int x2), .val (.int x3), .val (.int (0 : Int32)), .val (.long ((y1 &&& (7 : Int64)) - (4 : Int64))), .second, .val (.long (((y1 &&& (7 : Int64)) - (4 : Int64)) + ((y1 >>> ((3 : Int32).toInt64 &&& 63)) &&& (3 : Int64)))), .second, .val (.long ((((y1 &&& (7 : Int64)) - (4 : Int64)) + ((y1 >>> ((3 : Int32).toInt64 &&& 63)) &&& (3 : Int64))) + ((y1 >>> ((5 : Int32).toInt64 &&& 63)) &&& (3 : Int64)))), .second, .val (.int (x2 + (x3 &&& (1 : Int32)))), .val (.int (x2 + ((x3 >>> ((1 : Int32) &&& 31)) &&& (1 : Int32)))), .val (.int (x2 + ((x3 >>> ((2 : Int32) &&& 31)) &&& (1 : Int32)))), .val (.ref b1), .val (.ref b5), .val (.ref b8), .val (.ref b12), .val (.ref b17), .val (.int (1 : Int32))] [(.int (0 : Int32)), (.int (own_h O45))])
    refine own_by (fun t_ k_ => XS.aload X47.here hx rfl (hb hby at_307) rfl rfl k_) ?_
    show own_Go p e below _ T47 (mkF m 309 #[.val (.int x1), .val (.long y1), .second, .val (.long y2), .second, .val (.long y3), .second, .val (.int x2), .val (.int x3), .val (.int (0 : Int32)), .val (.long ((y1 &&& (7 : Int64)) - (4 : Int64))), .second, .val (.long (((y1 &&& (7 : Int64)) - (4 : Int64)) + ((y1 >>> ((3 : Int32).toInt64 &&& 63)) &&& (3 : Int64)))), .second, .val (.long ((((y1 &&& (7 : Int64)) - (4 : Int64)) + ((y1 >>> ((3 : Int32).toInt64 &&& 63)) &&& (3 : Int64))) + ((y1 >>> ((5 : Int32).toInt64 &&& 63)) &&& (3 : Int64)))), .second, .val (.int (x2 + (x3 &&& (1 : Int32)))), .val (.int (x2 + ((x3 >>> ((1 : Int32) &&& 31)) &&& (1 : Int32)))), .val (.int (x2 + ((x3 >>> ((2 : Int32) &&& 31)) &&& (1 : Int32)))), .val (.ref b1), .val (.ref b5), .val (.ref b8), .val (.ref b12), .val (.ref b17), .val (.int (1 : Int32))] [(.ref b5), (.int (0 : Int32)), (.int (own_h O45))])
    refine own_by (fun t_ k_ => XS.aload X47.here hx rfl (hb hby at_309) rfl rfl k_) ?_
    show own_Go p e below _ T47 (mkF m 311 #[.val (.int x1), .val (.long y1), .second, .val (.long y2), .second, .val (.long y3), .second, .val (.int x2), .val (.int x3), .val (.int (0 : Int32)), .val (.long ((y1 &&& (7 : Int64)) - (4 : Int64))), .second, .val (.long (((y1 &&& (7 : Int64)) - (4 : Int64)) + ((y1 >>> ((3 : Int32).toInt64 &&& 63)) &&& (3 : Int64)))), .second, .val (.long ((((y1 &&& (7 : Int64)) - (4 : Int64)) + ((y1 >>> ((3 : Int32).toInt64 &&& 63)) &&& (3 : Int64))) + ((y1 >>> ((5 : Int32).toInt64 &&& 63)) &&& (3 : Int64)))), .second, .val (.int (x2 + (x3 &&& (1 : Int32)))), .val (.int (x2 + ((x3 >>> ((1 : Int32) &&& 31)) &&& (1 : Int32)))), .val (.int (x2 + ((x3 >>> ((2 : Int32) &&& 31)) &&& (1 : Int32)))), .val (.ref b1), .val (.ref b5), .val (.ref b8), .val (.ref b12), .val (.ref b17), .val (.int (1 : Int32))] [(.ref b8), (.ref b5), (.int (0 : Int32)), (.int (own_h O45))])
    refine own_by (fun t_ k_ => XS.aload X47.here hx rfl (hb hby at_311) rfl rfl k_) ?_
    show own_Go p e below _ T47 (mkF m 313 #[.val (.int x1), .val (.long y1), .second, .val (.long y2), .second, .val (.long y3), .second, .val (.int x2), .val (.int x3), .val (.int (0 : Int32)), .val (.long ((y1 &&& (7 : Int64)) - (4 : Int64))), .second, .val (.long (((y1 &&& (7 : Int64)) - (4 : Int64)) + ((y1 >>> ((3 : Int32).toInt64 &&& 63)) &&& (3 : Int64)))), .second, .val (.long ((((y1 &&& (7 : Int64)) - (4 : Int64)) + ((y1 >>> ((3 : Int32).toInt64 &&& 63)) &&& (3 : Int64))) + ((y1 >>> ((5 : Int32).toInt64 &&& 63)) &&& (3 : Int64)))), .second, .val (.int (x2 + (x3 &&& (1 : Int32)))), .val (.int (x2 + ((x3 >>> ((1 : Int32) &&& 31)) &&& (1 : Int32)))), .val (.int (x2 + ((x3 >>> ((2 : Int32) &&& 31)) &&& (1 : Int32)))), .val (.ref b1), .val (.ref b5), .val (.ref b8), .val (.ref b12), .val (.ref b17), .val (.int (1 : Int32))] [(.ref b12), (.ref b8), (.ref b5), (.int (0 : Int32)), (.int (own_h O45))])
    refine own_callS (W := 1) X47 hx hZ (y := (⟨"com/example/hedgewalk/hedgewalk/eval/GoalQueueHasOpenPinLaw", "anyOpen", "(ILcom/example/hedgewalk/hedgewalk/eval/Verdict$Told;Lcom/example/hedgewalk/hedgewalk/eval/Verdict$Told;Lcom/example/hedgewalk/hedgewalk/eval/Verdict$Told;)Z"⟩ : MethodName)) hown (own_w hw 89 rfl) (own_w hw 90 rfl) (own_w hw 78 rfl) (own_w hw 91 rfl) (by decide) (by rw [hml]; rfl) (argsL := [(.int (0 : Int32)), (.ref b5), (.ref b8), (.ref b12)]) pd_6 rfl (rm13 l Z a0 hw [] (0 : Int32) b5 b8 b12 b17 aH aF bk bh bg b1 ([b5, b8, b12] : List Addr) O45 [] ([b5, b8, b12] : List Addr) s45 f45 T45.heap n0 sz46_ HW46_ (Or.inl ⟨rfl, rfl⟩)) (by decide) (by decide) (Nat.le_of_eq rfl) (by decide) (by decide) (rest := [(.int (own_h O45))]) e47 rfl (hb hby at_313) ?_
    intro v48 T48 L48 X48 hQ48
    obtain ⟨rfl, N48q, e48⟩ := hQ48
    have N48 := Fr.app N47 N48q
    show own_Go p e below _ T48 (mkF m 316 #[.val (.int x1), .val (.long y1), .second, .val (.long y2), .second, .val (.long y3), .second, .val (.int x2), .val (.int x3), .val (.int (0 : Int32)), .val (.long ((y1 &&& (7 : Int64)) - (4 : Int64))), .second, .val (.long (((y1 &&& (7 : Int64)) - (4 : Int64)) + ((y1 >>> ((3 : Int32).toInt64 &&& 63)) &&& (3 : Int64)))), .second, .val (.long ((((y1 &&& (7 : Int64)) - (4 : Int64)) + ((y1 >>> ((3 : Int32).toInt64 &&& 63)) &&& (3 : Int64))) + ((y1 >>> ((5 : Int32).toInt64 &&& 63)) &&& (3 : Int64)))), .second, .val (.int (x2 + (x3 &&& (1 : Int32)))), .val (.int (x2 + ((x3 >>> ((1 : Int32) &&& 31)) &&& (1 : Int32)))), .val (.int (x2 + ((x3 >>> ((2 : Int32) &&& 31)) &&& (1 : Int32)))), .val (.ref b1), .val (.ref b5), .val (.ref b8), .val (.ref b12), .val (.ref b17), .val (.int (1 : Int32))] [(.int (own_h O45)), (.int (own_h O45))])
    refine own_icmp X48 hx 323 (hb hby at_316) (by decide) (by decide) (fun hc => absurd (show (own_h O45) = (own_h O45) from rfl) (by first | exact hc | exact not_not_intro hc)) (fun _ => ?_)
    show own_Go p e below _ T48 (mkF m 319 #[.val (.int x1), .val (.long y1), .second, .val (.long y2), .second, .val (.long y3), .second, .val (.int x2), .val (.int x3), .val (.int (0 : Int32)), .val (.long ((y1 &&& (7 : Int64)) - (4 : Int64))), .second, .val (.long (((y1 &&& (7 : Int64)) - (4 : Int64)) + ((y1 >>> ((3 : Int32).toInt64 &&& 63)) &&& (3 : Int64)))), .second, .val (.long ((((y1 &&& (7 : Int64)) - (4 : Int64)) + ((y1 >>> ((3 : Int32).toInt64 &&& 63)) &&& (3 : Int64))) + ((y1 >>> ((5 : Int32).toInt64 &&& 63)) &&& (3 : Int64)))), .second, .val (.int (x2 + (x3 &&& (1 : Int32)))), .val (.int (x2 + ((x3 >>> ((1 : Int32) &&& 31)) &&& (1 : Int32)))), .val (.int (x2 + ((x3 >>> ((2 : Int32) &&& 31)) &&& (1 : Int32)))), .val (.ref b1), .val (.ref b5), .val (.ref b8), .val (.ref b12), .val (.ref b17), .val (.int (1 : Int32))] [])
    refine own_by (fun t_ k_ => XS.iconst X48.here hx rfl (hb hby at_319) k_) ?_
    show own_Go p e below _ T48 (mkF m 320 #[.val (.int x1), .val (.long y1), .second, .val (.long y2), .second, .val (.long y3), .second, .val (.int x2), .val (.int x3), .val (.int (0 : Int32)), .val (.long ((y1 &&& (7 : Int64)) - (4 : Int64))), .second, .val (.long (((y1 &&& (7 : Int64)) - (4 : Int64)) + ((y1 >>> ((3 : Int32).toInt64 &&& 63)) &&& (3 : Int64)))), .second, .val (.long ((((y1 &&& (7 : Int64)) - (4 : Int64)) + ((y1 >>> ((3 : Int32).toInt64 &&& 63)) &&& (3 : Int64))) + ((y1 >>> ((5 : Int32).toInt64 &&& 63)) &&& (3 : Int64)))), .second, .val (.int (x2 + (x3 &&& (1 : Int32)))), .val (.int (x2 + ((x3 >>> ((1 : Int32) &&& 31)) &&& (1 : Int32)))), .val (.int (x2 + ((x3 >>> ((2 : Int32) &&& 31)) &&& (1 : Int32)))), .val (.ref b1), .val (.ref b5), .val (.ref b8), .val (.ref b12), .val (.ref b17), .val (.int (1 : Int32))] [(.int (1 : Int32))])
    refine own_by (fun t_ k_ => XS.goto X48.here hx rfl (pc0 := 320) (pc' := 324) rfl (hb hby at_320) (by decide) (by decide) k_) ?_
    show own_Go p e below _ T48 (mkF m 324 #[.val (.int x1), .val (.long y1), .second, .val (.long y2), .second, .val (.long y3), .second, .val (.int x2), .val (.int x3), .val (.int (0 : Int32)), .val (.long ((y1 &&& (7 : Int64)) - (4 : Int64))), .second, .val (.long (((y1 &&& (7 : Int64)) - (4 : Int64)) + ((y1 >>> ((3 : Int32).toInt64 &&& 63)) &&& (3 : Int64)))), .second, .val (.long ((((y1 &&& (7 : Int64)) - (4 : Int64)) + ((y1 >>> ((3 : Int32).toInt64 &&& 63)) &&& (3 : Int64))) + ((y1 >>> ((5 : Int32).toInt64 &&& 63)) &&& (3 : Int64)))), .second, .val (.int (x2 + (x3 &&& (1 : Int32)))), .val (.int (x2 + ((x3 >>> ((1 : Int32) &&& 31)) &&& (1 : Int32)))), .val (.int (x2 + ((x3 >>> ((2 : Int32) &&& 31)) &&& (1 : Int32)))), .val (.ref b1), .val (.ref b5), .val (.ref b8), .val (.ref b12), .val (.ref b17), .val (.int (1 : Int32))] [(.int (1 : Int32))])
    refine own_by (fun t_ k_ => XS.istore X48.here hx rfl (hb hby at_324) rfl (l' := #[.val (.int x1), .val (.long y1), .second, .val (.long y2), .second, .val (.long y3), .second, .val (.int x2), .val (.int x3), .val (.int (0 : Int32)), .val (.long ((y1 &&& (7 : Int64)) - (4 : Int64))), .second, .val (.long (((y1 &&& (7 : Int64)) - (4 : Int64)) + ((y1 >>> ((3 : Int32).toInt64 &&& 63)) &&& (3 : Int64)))), .second, .val (.long ((((y1 &&& (7 : Int64)) - (4 : Int64)) + ((y1 >>> ((3 : Int32).toInt64 &&& 63)) &&& (3 : Int64))) + ((y1 >>> ((5 : Int32).toInt64 &&& 63)) &&& (3 : Int64)))), .second, .val (.int (x2 + (x3 &&& (1 : Int32)))), .val (.int (x2 + ((x3 >>> ((1 : Int32) &&& 31)) &&& (1 : Int32)))), .val (.int (x2 + ((x3 >>> ((2 : Int32) &&& 31)) &&& (1 : Int32)))), .val (.ref b1), .val (.ref b5), .val (.ref b8), .val (.ref b12), .val (.ref b17), .val (.int (1 : Int32))]) rfl k_) ?_
    show own_Go p e below _ T48 (mkF m 326 #[.val (.int x1), .val (.long y1), .second, .val (.long y2), .second, .val (.long y3), .second, .val (.int x2), .val (.int x3), .val (.int (0 : Int32)), .val (.long ((y1 &&& (7 : Int64)) - (4 : Int64))), .second, .val (.long (((y1 &&& (7 : Int64)) - (4 : Int64)) + ((y1 >>> ((3 : Int32).toInt64 &&& 63)) &&& (3 : Int64)))), .second, .val (.long ((((y1 &&& (7 : Int64)) - (4 : Int64)) + ((y1 >>> ((3 : Int32).toInt64 &&& 63)) &&& (3 : Int64))) + ((y1 >>> ((5 : Int32).toInt64 &&& 63)) &&& (3 : Int64)))), .second, .val (.int (x2 + (x3 &&& (1 : Int32)))), .val (.int (x2 + ((x3 >>> ((1 : Int32) &&& 31)) &&& (1 : Int32)))), .val (.int (x2 + ((x3 >>> ((2 : Int32) &&& 31)) &&& (1 : Int32)))), .val (.ref b1), .val (.ref b5), .val (.ref b8), .val (.ref b12), .val (.ref b17), .val (.int (1 : Int32))] [])
    refine own_by (fun t_ k_ => XS.iload X48.here hx rfl (hb hby at_326) rfl k_) ?_
    show own_Go p e below _ T48 (mkF m 328 #[.val (.int x1), .val (.long y1), .second, .val (.long y2), .second, .val (.long y3), .second, .val (.int x2), .val (.int x3), .val (.int (0 : Int32)), .val (.long ((y1 &&& (7 : Int64)) - (4 : Int64))), .second, .val (.long (((y1 &&& (7 : Int64)) - (4 : Int64)) + ((y1 >>> ((3 : Int32).toInt64 &&& 63)) &&& (3 : Int64)))), .second, .val (.long ((((y1 &&& (7 : Int64)) - (4 : Int64)) + ((y1 >>> ((3 : Int32).toInt64 &&& 63)) &&& (3 : Int64))) + ((y1 >>> ((5 : Int32).toInt64 &&& 63)) &&& (3 : Int64)))), .second, .val (.int (x2 + (x3 &&& (1 : Int32)))), .val (.int (x2 + ((x3 >>> ((1 : Int32) &&& 31)) &&& (1 : Int32)))), .val (.int (x2 + ((x3 >>> ((2 : Int32) &&& 31)) &&& (1 : Int32)))), .val (.ref b1), .val (.ref b5), .val (.ref b8), .val (.ref b12), .val (.ref b17), .val (.int (1 : Int32))] [(.int (1 : Int32))])
    refine own_retZ X48 hx hlk Bd.returns (by decide) (hb hby at_328) e48 (by decide) (by decide) ?_
    exact ⟨rfl, N48⟩
  · show own_Go p e below _ T37 (mkF m 131 #[.val (.int x1), .val (.long y1), .second, .val (.long y2), .second, .val (.long y3), .second, .val (.int x2), .val (.int x3), .val (.int (1 : Int32)), .val (.long ((y1 &&& (7 : Int64)) - (4 : Int64))), .second, .val (.long (((y1 &&& (7 : Int64)) - (4 : Int64)) + ((y1 >>> ((3 : Int32).toInt64 &&& 63)) &&& (3 : Int64)))), .second, .val (.long ((((y1 &&& (7 : Int64)) - (4 : Int64)) + ((y1 >>> ((3 : Int32).toInt64 &&& 63)) &&& (3 : Int64))) + ((y1 >>> ((5 : Int32).toInt64 &&& 63)) &&& (3 : Int64)))), .second, .val (.int (x2 + (x3 &&& (1 : Int32)))), .val (.int (x2 + ((x3 >>> ((1 : Int32) &&& 31)) &&& (1 : Int32)))), .val (.int (x2 + ((x3 >>> ((2 : Int32) &&& 31)) &&& (1 : Int32)))), .val (.ref b1), .val (.ref b5), .val (.ref b8), .val (.ref b12), .val (.ref b17), .val (.int (1 : Int32))] [])
    refine own_by (fun t_ k_ => XS.iload X37.here hx rfl (hb hby at_131) rfl k_) ?_
    show own_Go p e below _ T37 (mkF m 133 #[.val (.int x1), .val (.long y1), .second, .val (.long y2), .second, .val (.long y3), .second, .val (.int x2), .val (.int x3), .val (.int (1 : Int32)), .val (.long ((y1 &&& (7 : Int64)) - (4 : Int64))), .second, .val (.long (((y1 &&& (7 : Int64)) - (4 : Int64)) + ((y1 >>> ((3 : Int32).toInt64 &&& 63)) &&& (3 : Int64)))), .second, .val (.long ((((y1 &&& (7 : Int64)) - (4 : Int64)) + ((y1 >>> ((3 : Int32).toInt64 &&& 63)) &&& (3 : Int64))) + ((y1 >>> ((5 : Int32).toInt64 &&& 63)) &&& (3 : Int64)))), .second, .val (.int (x2 + (x3 &&& (1 : Int32)))), .val (.int (x2 + ((x3 >>> ((1 : Int32) &&& 31)) &&& (1 : Int32)))), .val (.int (x2 + ((x3 >>> ((2 : Int32) &&& 31)) &&& (1 : Int32)))), .val (.ref b1), .val (.ref b5), .val (.ref b8), .val (.ref b12), .val (.ref b17), .val (.int (1 : Int32))] [(.int (1 : Int32))])
    refine own_if X37 hx 147 (hb hby at_133) (by decide) (by decide) (fun hc => absurd (show (0 : Int32) < (1 : Int32) from by decide) (by first | exact hc | exact not_not_intro hc)) (fun _ => ?_)
    show own_Go p e below _ T37 (mkF m 136 #[.val (.int x1), .val (.long y1), .second, .val (.long y2), .second, .val (.long y3), .second, .val (.int x2), .val (.int x3), .val (.int (1 : Int32)), .val (.long ((y1 &&& (7 : Int64)) - (4 : Int64))), .second, .val (.long (((y1 &&& (7 : Int64)) - (4 : Int64)) + ((y1 >>> ((3 : Int32).toInt64 &&& 63)) &&& (3 : Int64)))), .second, .val (.long ((((y1 &&& (7 : Int64)) - (4 : Int64)) + ((y1 >>> ((3 : Int32).toInt64 &&& 63)) &&& (3 : Int64))) + ((y1 >>> ((5 : Int32).toInt64 &&& 63)) &&& (3 : Int64)))), .second, .val (.int (x2 + (x3 &&& (1 : Int32)))), .val (.int (x2 + ((x3 >>> ((1 : Int32) &&& 31)) &&& (1 : Int32)))), .val (.int (x2 + ((x3 >>> ((2 : Int32) &&& 31)) &&& (1 : Int32)))), .val (.ref b1), .val (.ref b5), .val (.ref b8), .val (.ref b12), .val (.ref b17), .val (.int (1 : Int32))] [])
    refine own_by (fun t_ k_ => XS.aload X37.here hx rfl (hb hby at_136) rfl rfl k_) ?_
    show own_Go p e below _ T37 (mkF m 138 #[.val (.int x1), .val (.long y1), .second, .val (.long y2), .second, .val (.long y3), .second, .val (.int x2), .val (.int x3), .val (.int (1 : Int32)), .val (.long ((y1 &&& (7 : Int64)) - (4 : Int64))), .second, .val (.long (((y1 &&& (7 : Int64)) - (4 : Int64)) + ((y1 >>> ((3 : Int32).toInt64 &&& 63)) &&& (3 : Int64)))), .second, .val (.long ((((y1 &&& (7 : Int64)) - (4 : Int64)) + ((y1 >>> ((3 : Int32).toInt64 &&& 63)) &&& (3 : Int64))) + ((y1 >>> ((5 : Int32).toInt64 &&& 63)) &&& (3 : Int64)))), .second, .val (.int (x2 + (x3 &&& (1 : Int32)))), .val (.int (x2 + ((x3 >>> ((1 : Int32) &&& 31)) &&& (1 : Int32)))), .val (.int (x2 + ((x3 >>> ((2 : Int32) &&& 31)) &&& (1 : Int32)))), .val (.ref b1), .val (.ref b5), .val (.ref b8), .val (.ref b12), .val (.ref b17), .val (.int (1 : Int32))] [(.ref b17)])
    refine own_by (fun t_ k_ => XT.lload X37.here hx rfl (hb hby at_138) rfl k_) ?_
    show own_Go p e below _ T37 (mkF m 140 #[.val (.int x1), .val (.long y1), .second, .val (.long y2), .second, .val (.long y3), .second, .val (.int x2), .val (.int x3), .val (.int (1 : Int32)), .val (.long ((y1 &&& (7 : Int64)) - (4 : Int64))), .second, .val (.long (((y1 &&& (7 : Int64)) - (4 : Int64)) + ((y1 >>> ((3 : Int32).toInt64 &&& 63)) &&& (3 : Int64)))), .second, .val (.long ((((y1 &&& (7 : Int64)) - (4 : Int64)) + ((y1 >>> ((3 : Int32).toInt64 &&& 63)) &&& (3 : Int64))) + ((y1 >>> ((5 : Int32).toInt64 &&& 63)) &&& (3 : Int64)))), .second, .val (.int (x2 + (x3 &&& (1 : Int32)))), .val (.int (x2 + ((x3 >>> ((1 : Int32) &&& 31)) &&& (1 : Int32)))), .val (.int (x2 + ((x3 >>> ((2 : Int32) &&& 31)) &&& (1 : Int32)))), .val (.ref b1), .val (.ref b5), .val (.ref b8), .val (.ref b12), .val (.ref b17), .val (.int (1 : Int32))] [(.long ((y1 &&& (7 : Int64)) - (4 : Int64))), (.ref b17)])
    refine own_by (fun t_ k_ => XS.iload X37.here hx rfl (hb hby at_140) rfl k_) ?_
    show own_Go p e below _ T37 (mkF m 142 #[.val (.int x1), .val (.long y1), .second, .val (.long y2), .second, .val (.long y3), .second, .val (.int x2), .val (.int x3), .val (.int (1 : Int32)), .val (.long ((y1 &&& (7 : Int64)) - (4 : Int64))), .second, .val (.long (((y1 &&& (7 : Int64)) - (4 : Int64)) + ((y1 >>> ((3 : Int32).toInt64 &&& 63)) &&& (3 : Int64)))), .second, .val (.long ((((y1 &&& (7 : Int64)) - (4 : Int64)) + ((y1 >>> ((3 : Int32).toInt64 &&& 63)) &&& (3 : Int64))) + ((y1 >>> ((5 : Int32).toInt64 &&& 63)) &&& (3 : Int64)))), .second, .val (.int (x2 + (x3 &&& (1 : Int32)))), .val (.int (x2 + ((x3 >>> ((1 : Int32) &&& 31)) &&& (1 : Int32)))), .val (.int (x2 + ((x3 >>> ((2 : Int32) &&& 31)) &&& (1 : Int32)))), .val (.ref b1), .val (.ref b5), .val (.ref b8), .val (.ref b12), .val (.ref b17), .val (.int (1 : Int32))] [(.int (x2 + (x3 &&& (1 : Int32)))), (.long ((y1 &&& (7 : Int64)) - (4 : Int64))), (.ref b17)])
    refine own_by (fun t_ k_ => XS.aload X37.here hx rfl (hb hby at_142) rfl rfl k_) ?_
    show own_Go p e below _ T37 (mkF m 144 #[.val (.int x1), .val (.long y1), .second, .val (.long y2), .second, .val (.long y3), .second, .val (.int x2), .val (.int x3), .val (.int (1 : Int32)), .val (.long ((y1 &&& (7 : Int64)) - (4 : Int64))), .second, .val (.long (((y1 &&& (7 : Int64)) - (4 : Int64)) + ((y1 >>> ((3 : Int32).toInt64 &&& 63)) &&& (3 : Int64)))), .second, .val (.long ((((y1 &&& (7 : Int64)) - (4 : Int64)) + ((y1 >>> ((3 : Int32).toInt64 &&& 63)) &&& (3 : Int64))) + ((y1 >>> ((5 : Int32).toInt64 &&& 63)) &&& (3 : Int64)))), .second, .val (.int (x2 + (x3 &&& (1 : Int32)))), .val (.int (x2 + ((x3 >>> ((1 : Int32) &&& 31)) &&& (1 : Int32)))), .val (.int (x2 + ((x3 >>> ((2 : Int32) &&& 31)) &&& (1 : Int32)))), .val (.ref b1), .val (.ref b5), .val (.ref b8), .val (.ref b12), .val (.ref b17), .val (.int (1 : Int32))] [(.ref b5), (.int (x2 + (x3 &&& (1 : Int32)))), (.long ((y1 &&& (7 : Int64)) - (4 : Int64))), (.ref b17)])
    refine own_callV (W := 0) X37 hx hZ (y := (⟨"com/example/hedgewalk/hedgewalk/eval/GoalQueue", "add", "(JILcom/example/hedgewalk/hedgewalk/eval/Verdict$Listener;)V"⟩ : MethodName)) (z := (⟨"com/example/hedgewalk/hedgewalk/eval/GoalQueue", "add", "(JILcom/example/hedgewalk/hedgewalk/eval/Verdict$Listener;)V"⟩ : MethodName)) hown (own_w hw 101 rfl) (own_w hw 102 rfl) (notFace_of_selects (args := #[]) (mvT hZ (own_w hw 104 rfl))) (own_w hw 104 rfl) (own_w hw 103 rfl) (own_w hw 52 rfl) (own_w hw 105 rfl) (by decide) (by rw [hml]; rfl) (argsL := [(.long ((y1 &&& (7 : Int64)) - (4 : Int64))), (.int (x2 + (x3 &&& (1 : Int32)))), (.ref b5)]) pd_9 rfl (a := b17) e37 Eq36 (rm16 l Z a0 hw [] b17 ((y1 &&& (7 : Int64)) - (4 : Int64)) (x2 + (x3 &&& (1 : Int32))) b5 aH aF bk bh bg b1 ([b5, b8, b12] : List Addr) [] [] ([b5, b8, b12] : List Addr) 0 0 ([b8, b12] : List Addr) T26.heap n0 sz36_ HW36_ (by decide) rfl (by simp) (ninS (Nat.ne_of_lt lt_b5_b8) (ninS (Nat.ne_of_lt lt_b5_b12) nin0)) nin0) (by decide) (by decide) (Nat.le_of_eq rfl) (by decide) (by decide) (rest := []) rfl (hb hby at_144) ?_
    intro v49 T49 L49 X49 hQ49
    obtain ⟨rfl, N49q, HX49⟩ := hQ49
    have N49 := Fr.app N37 N49q
    have HW50_ : own_W Z T49.heap n0 aH aF b17 bk bh bg b1 ([b5, b8, b12] : List Addr) ([b5] : List Addr) ([b5] : List Addr) ([b8, b12] : List Addr) 1 0 := HX49
    have Eq50 := HW50_.exa
    have sz50_ := HW50_.sz
    show own_Go p e below _ T49 (mkF m 147 #[.val (.int x1), .val (.long y1), .second, .val (.long y2), .second, .val (.long y3), .second, .val (.int x2), .val (.int x3), .val (.int (1 : Int32)), .val (.long ((y1 &&& (7 : Int64)) - (4 : Int64))), .second, .val (.long (((y1 &&& (7 : Int64)) - (4 : Int64)) + ((y1 >>> ((3 : Int32).toInt64 &&& 63)) &&& (3 : Int64)))), .second, .val (.long ((((y1 &&& (7 : Int64)) - (4 : Int64)) + ((y1 >>> ((3 : Int32).toInt64 &&& 63)) &&& (3 : Int64))) + ((y1 >>> ((5 : Int32).toInt64 &&& 63)) &&& (3 : Int64)))), .second, .val (.int (x2 + (x3 &&& (1 : Int32)))), .val (.int (x2 + ((x3 >>> ((1 : Int32) &&& 31)) &&& (1 : Int32)))), .val (.int (x2 + ((x3 >>> ((2 : Int32) &&& 31)) &&& (1 : Int32)))), .val (.ref b1), .val (.ref b5), .val (.ref b8), .val (.ref b12), .val (.ref b17), .val (.int (1 : Int32))] [])
    refine own_by (fun t_ k_ => XS.iload X49.here hx rfl (hb hby at_147) rfl k_) ?_
    show own_Go p e below _ T49 (mkF m 149 #[.val (.int x1), .val (.long y1), .second, .val (.long y2), .second, .val (.long y3), .second, .val (.int x2), .val (.int x3), .val (.int (1 : Int32)), .val (.long ((y1 &&& (7 : Int64)) - (4 : Int64))), .second, .val (.long (((y1 &&& (7 : Int64)) - (4 : Int64)) + ((y1 >>> ((3 : Int32).toInt64 &&& 63)) &&& (3 : Int64)))), .second, .val (.long ((((y1 &&& (7 : Int64)) - (4 : Int64)) + ((y1 >>> ((3 : Int32).toInt64 &&& 63)) &&& (3 : Int64))) + ((y1 >>> ((5 : Int32).toInt64 &&& 63)) &&& (3 : Int64)))), .second, .val (.int (x2 + (x3 &&& (1 : Int32)))), .val (.int (x2 + ((x3 >>> ((1 : Int32) &&& 31)) &&& (1 : Int32)))), .val (.int (x2 + ((x3 >>> ((2 : Int32) &&& 31)) &&& (1 : Int32)))), .val (.ref b1), .val (.ref b5), .val (.ref b8), .val (.ref b12), .val (.ref b17), .val (.int (1 : Int32))] [(.int (1 : Int32))])
    refine own_by (fun t_ k_ => XS.iconst X49.here hx rfl (hb hby at_149) k_) ?_
    show own_Go p e below _ T49 (mkF m 150 #[.val (.int x1), .val (.long y1), .second, .val (.long y2), .second, .val (.long y3), .second, .val (.int x2), .val (.int x3), .val (.int (1 : Int32)), .val (.long ((y1 &&& (7 : Int64)) - (4 : Int64))), .second, .val (.long (((y1 &&& (7 : Int64)) - (4 : Int64)) + ((y1 >>> ((3 : Int32).toInt64 &&& 63)) &&& (3 : Int64)))), .second, .val (.long ((((y1 &&& (7 : Int64)) - (4 : Int64)) + ((y1 >>> ((3 : Int32).toInt64 &&& 63)) &&& (3 : Int64))) + ((y1 >>> ((5 : Int32).toInt64 &&& 63)) &&& (3 : Int64)))), .second, .val (.int (x2 + (x3 &&& (1 : Int32)))), .val (.int (x2 + ((x3 >>> ((1 : Int32) &&& 31)) &&& (1 : Int32)))), .val (.int (x2 + ((x3 >>> ((2 : Int32) &&& 31)) &&& (1 : Int32)))), .val (.ref b1), .val (.ref b5), .val (.ref b8), .val (.ref b12), .val (.ref b17), .val (.int (1 : Int32))] [(.int (1 : Int32)), (.int (1 : Int32))])
    refine own_icmp X49 hx 164 (hb hby at_150) (by decide) (by decide) (fun _ => ?_) (fun hc => absurd (show ¬ (1 : Int32) < (1 : Int32) from by decide) (by first | exact hc | exact not_not_intro hc))
    show own_Go p e below _ T49 (mkF m 164 #[.val (.int x1), .val (.long y1), .second, .val (.long y2), .second, .val (.long y3), .second, .val (.int x2), .val (.int x3), .val (.int (1 : Int32)), .val (.long ((y1 &&& (7 : Int64)) - (4 : Int64))), .second, .val (.long (((y1 &&& (7 : Int64)) - (4 : Int64)) + ((y1 >>> ((3 : Int32).toInt64 &&& 63)) &&& (3 : Int64)))), .second, .val (.long ((((y1 &&& (7 : Int64)) - (4 : Int64)) + ((y1 >>> ((3 : Int32).toInt64 &&& 63)) &&& (3 : Int64))) + ((y1 >>> ((5 : Int32).toInt64 &&& 63)) &&& (3 : Int64)))), .second, .val (.int (x2 + (x3 &&& (1 : Int32)))), .val (.int (x2 + ((x3 >>> ((1 : Int32) &&& 31)) &&& (1 : Int32)))), .val (.int (x2 + ((x3 >>> ((2 : Int32) &&& 31)) &&& (1 : Int32)))), .val (.ref b1), .val (.ref b5), .val (.ref b8), .val (.ref b12), .val (.ref b17), .val (.int (1 : Int32))] [])
    refine own_by (fun t_ k_ => XS.iload X49.here hx rfl (hb hby at_164) rfl k_) ?_
    show own_Go p e below _ T49 (mkF m 166 #[.val (.int x1), .val (.long y1), .second, .val (.long y2), .second, .val (.long y3), .second, .val (.int x2), .val (.int x3), .val (.int (1 : Int32)), .val (.long ((y1 &&& (7 : Int64)) - (4 : Int64))), .second, .val (.long (((y1 &&& (7 : Int64)) - (4 : Int64)) + ((y1 >>> ((3 : Int32).toInt64 &&& 63)) &&& (3 : Int64)))), .second, .val (.long ((((y1 &&& (7 : Int64)) - (4 : Int64)) + ((y1 >>> ((3 : Int32).toInt64 &&& 63)) &&& (3 : Int64))) + ((y1 >>> ((5 : Int32).toInt64 &&& 63)) &&& (3 : Int64)))), .second, .val (.int (x2 + (x3 &&& (1 : Int32)))), .val (.int (x2 + ((x3 >>> ((1 : Int32) &&& 31)) &&& (1 : Int32)))), .val (.int (x2 + ((x3 >>> ((2 : Int32) &&& 31)) &&& (1 : Int32)))), .val (.ref b1), .val (.ref b5), .val (.ref b8), .val (.ref b12), .val (.ref b17), .val (.int (1 : Int32))] [(.int (1 : Int32))])
    refine own_by (fun t_ k_ => XS.iconst X49.here hx rfl (hb hby at_166) k_) ?_
    show own_Go p e below _ T49 (mkF m 167 #[.val (.int x1), .val (.long y1), .second, .val (.long y2), .second, .val (.long y3), .second, .val (.int x2), .val (.int x3), .val (.int (1 : Int32)), .val (.long ((y1 &&& (7 : Int64)) - (4 : Int64))), .second, .val (.long (((y1 &&& (7 : Int64)) - (4 : Int64)) + ((y1 >>> ((3 : Int32).toInt64 &&& 63)) &&& (3 : Int64)))), .second, .val (.long ((((y1 &&& (7 : Int64)) - (4 : Int64)) + ((y1 >>> ((3 : Int32).toInt64 &&& 63)) &&& (3 : Int64))) + ((y1 >>> ((5 : Int32).toInt64 &&& 63)) &&& (3 : Int64)))), .second, .val (.int (x2 + (x3 &&& (1 : Int32)))), .val (.int (x2 + ((x3 >>> ((1 : Int32) &&& 31)) &&& (1 : Int32)))), .val (.int (x2 + ((x3 >>> ((2 : Int32) &&& 31)) &&& (1 : Int32)))), .val (.ref b1), .val (.ref b5), .val (.ref b8), .val (.ref b12), .val (.ref b17), .val (.int (1 : Int32))] [(.int (2 : Int32)), (.int (1 : Int32))])
    refine own_icmp X49 hx 181 (hb hby at_167) (by decide) (by decide) (fun _ => ?_) (fun hc => absurd (show ¬ (2 : Int32) < (1 : Int32) from by decide) (by first | exact hc | exact not_not_intro hc))
    show own_Go p e below _ T49 (mkF m 181 #[.val (.int x1), .val (.long y1), .second, .val (.long y2), .second, .val (.long y3), .second, .val (.int x2), .val (.int x3), .val (.int (1 : Int32)), .val (.long ((y1 &&& (7 : Int64)) - (4 : Int64))), .second, .val (.long (((y1 &&& (7 : Int64)) - (4 : Int64)) + ((y1 >>> ((3 : Int32).toInt64 &&& 63)) &&& (3 : Int64)))), .second, .val (.long ((((y1 &&& (7 : Int64)) - (4 : Int64)) + ((y1 >>> ((3 : Int32).toInt64 &&& 63)) &&& (3 : Int64))) + ((y1 >>> ((5 : Int32).toInt64 &&& 63)) &&& (3 : Int64)))), .second, .val (.int (x2 + (x3 &&& (1 : Int32)))), .val (.int (x2 + ((x3 >>> ((1 : Int32) &&& 31)) &&& (1 : Int32)))), .val (.int (x2 + ((x3 >>> ((2 : Int32) &&& 31)) &&& (1 : Int32)))), .val (.ref b1), .val (.ref b5), .val (.ref b8), .val (.ref b12), .val (.ref b17), .val (.int (1 : Int32))] [])
    refine own_by (fun t_ k_ => XS.iload X49.here hx rfl (hb hby at_181) rfl k_) ?_
    show own_Go p e below _ T49 (mkF m 183 #[.val (.int x1), .val (.long y1), .second, .val (.long y2), .second, .val (.long y3), .second, .val (.int x2), .val (.int x3), .val (.int (1 : Int32)), .val (.long ((y1 &&& (7 : Int64)) - (4 : Int64))), .second, .val (.long (((y1 &&& (7 : Int64)) - (4 : Int64)) + ((y1 >>> ((3 : Int32).toInt64 &&& 63)) &&& (3 : Int64)))), .second, .val (.long ((((y1 &&& (7 : Int64)) - (4 : Int64)) + ((y1 >>> ((3 : Int32).toInt64 &&& 63)) &&& (3 : Int64))) + ((y1 >>> ((5 : Int32).toInt64 &&& 63)) &&& (3 : Int64)))), .second, .val (.int (x2 + (x3 &&& (1 : Int32)))), .val (.int (x2 + ((x3 >>> ((1 : Int32) &&& 31)) &&& (1 : Int32)))), .val (.int (x2 + ((x3 >>> ((2 : Int32) &&& 31)) &&& (1 : Int32)))), .val (.ref b1), .val (.ref b5), .val (.ref b8), .val (.ref b12), .val (.ref b17), .val (.int (1 : Int32))] [(.int (1 : Int32))])
    refine own_if X49 hx 208 (hb hby at_183) (by decide) (by decide) (fun hc => absurd (show ¬ (1 : Int32) = (0 : Int32) from by decide) (by first | exact hc | exact not_not_intro hc)) (fun _ => ?_)
    show own_Go p e below _ T49 (mkF m 186 #[.val (.int x1), .val (.long y1), .second, .val (.long y2), .second, .val (.long y3), .second, .val (.int x2), .val (.int x3), .val (.int (1 : Int32)), .val (.long ((y1 &&& (7 : Int64)) - (4 : Int64))), .second, .val (.long (((y1 &&& (7 : Int64)) - (4 : Int64)) + ((y1 >>> ((3 : Int32).toInt64 &&& 63)) &&& (3 : Int64)))), .second, .val (.long ((((y1 &&& (7 : Int64)) - (4 : Int64)) + ((y1 >>> ((3 : Int32).toInt64 &&& 63)) &&& (3 : Int64))) + ((y1 >>> ((5 : Int32).toInt64 &&& 63)) &&& (3 : Int64)))), .second, .val (.int (x2 + (x3 &&& (1 : Int32)))), .val (.int (x2 + ((x3 >>> ((1 : Int32) &&& 31)) &&& (1 : Int32)))), .val (.int (x2 + ((x3 >>> ((2 : Int32) &&& 31)) &&& (1 : Int32)))), .val (.ref b1), .val (.ref b5), .val (.ref b8), .val (.ref b12), .val (.ref b17), .val (.int (1 : Int32))] [])
    refine own_by (fun t_ k_ => XS.aload X49.here hx rfl (hb hby at_186) rfl rfl k_) ?_
    show own_Go p e below _ T49 (mkF m 188 #[.val (.int x1), .val (.long y1), .second, .val (.long y2), .second, .val (.long y3), .second, .val (.int x2), .val (.int x3), .val (.int (1 : Int32)), .val (.long ((y1 &&& (7 : Int64)) - (4 : Int64))), .second, .val (.long (((y1 &&& (7 : Int64)) - (4 : Int64)) + ((y1 >>> ((3 : Int32).toInt64 &&& 63)) &&& (3 : Int64)))), .second, .val (.long ((((y1 &&& (7 : Int64)) - (4 : Int64)) + ((y1 >>> ((3 : Int32).toInt64 &&& 63)) &&& (3 : Int64))) + ((y1 >>> ((5 : Int32).toInt64 &&& 63)) &&& (3 : Int64)))), .second, .val (.int (x2 + (x3 &&& (1 : Int32)))), .val (.int (x2 + ((x3 >>> ((1 : Int32) &&& 31)) &&& (1 : Int32)))), .val (.int (x2 + ((x3 >>> ((2 : Int32) &&& 31)) &&& (1 : Int32)))), .val (.ref b1), .val (.ref b5), .val (.ref b8), .val (.ref b12), .val (.ref b17), .val (.int (1 : Int32))] [(.ref b17)])
    refine own_callV (W := 0) X49 hx hZ (y := (⟨"com/example/hedgewalk/hedgewalk/eval/GoalQueue", "hasOpen", "()Z"⟩ : MethodName)) (z := (⟨"com/example/hedgewalk/hedgewalk/eval/GoalQueue", "hasOpen", "()Z"⟩ : MethodName)) hown (own_w hw 67 rfl) (own_w hw 68 rfl) (notFace_of_selects (args := #[]) (mvT hZ (own_w hw 70 rfl))) (own_w hw 70 rfl) (own_w hw 69 rfl) (own_w hw 52 rfl) (own_w hw 71 rfl) (by decide) (by rw [hml]; rfl) (argsL := []) pd_2 rfl (a := b17) rfl Eq50 (rm9 l Z a0 hw [] b17 aH aF bk bh bg b1 ([b5, b8, b12] : List Addr) ([b5] : List Addr) ([b5] : List Addr) ([b8, b12] : List Addr) 1 0 T49.heap n0 sz50_ HW50_) (by decide) (by decide) (Nat.le_of_eq rfl) (by decide) (by decide) (rest := []) rfl (hb hby at_188) ?_
    intro v51 T51 L51 X51 hQ51
    obtain ⟨rfl, N51q, e51⟩ := hQ51
    have N51 := Fr.app N49 N51q
    show own_Go p e below _ T51 (mkF m 191 #[.val (.int x1), .val (.long y1), .second, .val (.long y2), .second, .val (.long y3), .second, .val (.int x2), .val (.int x3), .val (.int (1 : Int32)), .val (.long ((y1 &&& (7 : Int64)) - (4 : Int64))), .second, .val (.long (((y1 &&& (7 : Int64)) - (4 : Int64)) + ((y1 >>> ((3 : Int32).toInt64 &&& 63)) &&& (3 : Int64)))), .second, .val (.long ((((y1 &&& (7 : Int64)) - (4 : Int64)) + ((y1 >>> ((3 : Int32).toInt64 &&& 63)) &&& (3 : Int64))) + ((y1 >>> ((5 : Int32).toInt64 &&& 63)) &&& (3 : Int64)))), .second, .val (.int (x2 + (x3 &&& (1 : Int32)))), .val (.int (x2 + ((x3 >>> ((1 : Int32) &&& 31)) &&& (1 : Int32)))), .val (.int (x2 + ((x3 >>> ((2 : Int32) &&& 31)) &&& (1 : Int32)))), .val (.ref b1), .val (.ref b5), .val (.ref b8), .val (.ref b12), .val (.ref b17), .val (.int (1 : Int32))] [(.int (own_h ([b5] : List Addr)))])
    refine own_by (fun t_ k_ => XS.iload X51.here hx rfl (hb hby at_191) rfl k_) ?_
    show own_Go p e below _ T51 (mkF m 193 #[.val (.int x1), .val (.long y1), .second, .val (.long y2), .second, .val (.long y3), .second, .val (.int x2), .val (.int x3), .val (.int (1 : Int32)), .val (.long ((y1 &&& (7 : Int64)) - (4 : Int64))), .second, .val (.long (((y1 &&& (7 : Int64)) - (4 : Int64)) + ((y1 >>> ((3 : Int32).toInt64 &&& 63)) &&& (3 : Int64)))), .second, .val (.long ((((y1 &&& (7 : Int64)) - (4 : Int64)) + ((y1 >>> ((3 : Int32).toInt64 &&& 63)) &&& (3 : Int64))) + ((y1 >>> ((5 : Int32).toInt64 &&& 63)) &&& (3 : Int64)))), .second, .val (.int (x2 + (x3 &&& (1 : Int32)))), .val (.int (x2 + ((x3 >>> ((1 : Int32) &&& 31)) &&& (1 : Int32)))), .val (.int (x2 + ((x3 >>> ((2 : Int32) &&& 31)) &&& (1 : Int32)))), .val (.ref b1), .val (.ref b5), .val (.ref b8), .val (.ref b12), .val (.ref b17), .val (.int (1 : Int32))] [(.int (1 : Int32)), (.int (own_h ([b5] : List Addr)))])
    refine own_if X51 hx 200 (hb hby at_193) (by decide) (by decide) (fun hc => absurd (show (0 : Int32) < (1 : Int32) from by decide) (by first | exact hc | exact not_not_intro hc)) (fun _ => ?_)
    show own_Go p e below _ T51 (mkF m 196 #[.val (.int x1), .val (.long y1), .second, .val (.long y2), .second, .val (.long y3), .second, .val (.int x2), .val (.int x3), .val (.int (1 : Int32)), .val (.long ((y1 &&& (7 : Int64)) - (4 : Int64))), .second, .val (.long (((y1 &&& (7 : Int64)) - (4 : Int64)) + ((y1 >>> ((3 : Int32).toInt64 &&& 63)) &&& (3 : Int64)))), .second, .val (.long ((((y1 &&& (7 : Int64)) - (4 : Int64)) + ((y1 >>> ((3 : Int32).toInt64 &&& 63)) &&& (3 : Int64))) + ((y1 >>> ((5 : Int32).toInt64 &&& 63)) &&& (3 : Int64)))), .second, .val (.int (x2 + (x3 &&& (1 : Int32)))), .val (.int (x2 + ((x3 >>> ((1 : Int32) &&& 31)) &&& (1 : Int32)))), .val (.int (x2 + ((x3 >>> ((2 : Int32) &&& 31)) &&& (1 : Int32)))), .val (.ref b1), .val (.ref b5), .val (.ref b8), .val (.ref b12), .val (.ref b17), .val (.int (1 : Int32))] [(.int (own_h ([b5] : List Addr)))])
    refine own_by (fun t_ k_ => XS.iconst X51.here hx rfl (hb hby at_196) k_) ?_
    show own_Go p e below _ T51 (mkF m 197 #[.val (.int x1), .val (.long y1), .second, .val (.long y2), .second, .val (.long y3), .second, .val (.int x2), .val (.int x3), .val (.int (1 : Int32)), .val (.long ((y1 &&& (7 : Int64)) - (4 : Int64))), .second, .val (.long (((y1 &&& (7 : Int64)) - (4 : Int64)) + ((y1 >>> ((3 : Int32).toInt64 &&& 63)) &&& (3 : Int64)))), .second, .val (.long ((((y1 &&& (7 : Int64)) - (4 : Int64)) + ((y1 >>> ((3 : Int32).toInt64 &&& 63)) &&& (3 : Int64))) + ((y1 >>> ((5 : Int32).toInt64 &&& 63)) &&& (3 : Int64)))), .second, .val (.int (x2 + (x3 &&& (1 : Int32)))), .val (.int (x2 + ((x3 >>> ((1 : Int32) &&& 31)) &&& (1 : Int32)))), .val (.int (x2 + ((x3 >>> ((2 : Int32) &&& 31)) &&& (1 : Int32)))), .val (.ref b1), .val (.ref b5), .val (.ref b8), .val (.ref b12), .val (.ref b17), .val (.int (1 : Int32))] [(.int (1 : Int32)), (.int (own_h ([b5] : List Addr)))])
    refine own_by (fun t_ k_ => XS.goto X51.here hx rfl (pc0 := 197) (pc' := 201) rfl (hb hby at_197) (by decide) (by decide) k_) ?_
    show own_Go p e below _ T51 (mkF m 201 #[.val (.int x1), .val (.long y1), .second, .val (.long y2), .second, .val (.long y3), .second, .val (.int x2), .val (.int x3), .val (.int (1 : Int32)), .val (.long ((y1 &&& (7 : Int64)) - (4 : Int64))), .second, .val (.long (((y1 &&& (7 : Int64)) - (4 : Int64)) + ((y1 >>> ((3 : Int32).toInt64 &&& 63)) &&& (3 : Int64)))), .second, .val (.long ((((y1 &&& (7 : Int64)) - (4 : Int64)) + ((y1 >>> ((3 : Int32).toInt64 &&& 63)) &&& (3 : Int64))) + ((y1 >>> ((5 : Int32).toInt64 &&& 63)) &&& (3 : Int64)))), .second, .val (.int (x2 + (x3 &&& (1 : Int32)))), .val (.int (x2 + ((x3 >>> ((1 : Int32) &&& 31)) &&& (1 : Int32)))), .val (.int (x2 + ((x3 >>> ((2 : Int32) &&& 31)) &&& (1 : Int32)))), .val (.ref b1), .val (.ref b5), .val (.ref b8), .val (.ref b12), .val (.ref b17), .val (.int (1 : Int32))] [(.int (1 : Int32)), (.int (own_h ([b5] : List Addr)))])
    refine own_icmp X51 hx 208 (hb hby at_201) (by decide) (by decide) (fun hc => absurd (show (own_h ([b5] : List Addr)) = (1 : Int32) from own_hm (x := b5) (by simp)) (by first | exact hc | exact not_not_intro hc)) (fun _ => ?_)
    show own_Go p e below _ T51 (mkF m 204 #[.val (.int x1), .val (.long y1), .second, .val (.long y2), .second, .val (.long y3), .second, .val (.int x2), .val (.int x3), .val (.int (1 : Int32)), .val (.long ((y1 &&& (7 : Int64)) - (4 : Int64))), .second, .val (.long (((y1 &&& (7 : Int64)) - (4 : Int64)) + ((y1 >>> ((3 : Int32).toInt64 &&& 63)) &&& (3 : Int64)))), .second, .val (.long ((((y1 &&& (7 : Int64)) - (4 : Int64)) + ((y1 >>> ((3 : Int32).toInt64 &&& 63)) &&& (3 : Int64))) + ((y1 >>> ((5 : Int32).toInt64 &&& 63)) &&& (3 : Int64)))), .second, .val (.int (x2 + (x3 &&& (1 : Int32)))), .val (.int (x2 + ((x3 >>> ((1 : Int32) &&& 31)) &&& (1 : Int32)))), .val (.int (x2 + ((x3 >>> ((2 : Int32) &&& 31)) &&& (1 : Int32)))), .val (.ref b1), .val (.ref b5), .val (.ref b8), .val (.ref b12), .val (.ref b17), .val (.int (1 : Int32))] [])
    refine own_by (fun t_ k_ => XS.iconst X51.here hx rfl (hb hby at_204) k_) ?_
    show own_Go p e below _ T51 (mkF m 205 #[.val (.int x1), .val (.long y1), .second, .val (.long y2), .second, .val (.long y3), .second, .val (.int x2), .val (.int x3), .val (.int (1 : Int32)), .val (.long ((y1 &&& (7 : Int64)) - (4 : Int64))), .second, .val (.long (((y1 &&& (7 : Int64)) - (4 : Int64)) + ((y1 >>> ((3 : Int32).toInt64 &&& 63)) &&& (3 : Int64)))), .second, .val (.long ((((y1 &&& (7 : Int64)) - (4 : Int64)) + ((y1 >>> ((3 : Int32).toInt64 &&& 63)) &&& (3 : Int64))) + ((y1 >>> ((5 : Int32).toInt64 &&& 63)) &&& (3 : Int64)))), .second, .val (.int (x2 + (x3 &&& (1 : Int32)))), .val (.int (x2 + ((x3 >>> ((1 : Int32) &&& 31)) &&& (1 : Int32)))), .val (.int (x2 + ((x3 >>> ((2 : Int32) &&& 31)) &&& (1 : Int32)))), .val (.ref b1), .val (.ref b5), .val (.ref b8), .val (.ref b12), .val (.ref b17), .val (.int (1 : Int32))] [(.int (1 : Int32))])
    refine own_by (fun t_ k_ => XS.goto X51.here hx rfl (pc0 := 205) (pc' := 209) rfl (hb hby at_205) (by decide) (by decide) k_) ?_
    show own_Go p e below _ T51 (mkF m 209 #[.val (.int x1), .val (.long y1), .second, .val (.long y2), .second, .val (.long y3), .second, .val (.int x2), .val (.int x3), .val (.int (1 : Int32)), .val (.long ((y1 &&& (7 : Int64)) - (4 : Int64))), .second, .val (.long (((y1 &&& (7 : Int64)) - (4 : Int64)) + ((y1 >>> ((3 : Int32).toInt64 &&& 63)) &&& (3 : Int64)))), .second, .val (.long ((((y1 &&& (7 : Int64)) - (4 : Int64)) + ((y1 >>> ((3 : Int32).toInt64 &&& 63)) &&& (3 : Int64))) + ((y1 >>> ((5 : Int32).toInt64 &&& 63)) &&& (3 : Int64)))), .second, .val (.int (x2 + (x3 &&& (1 : Int32)))), .val (.int (x2 + ((x3 >>> ((1 : Int32) &&& 31)) &&& (1 : Int32)))), .val (.int (x2 + ((x3 >>> ((2 : Int32) &&& 31)) &&& (1 : Int32)))), .val (.ref b1), .val (.ref b5), .val (.ref b8), .val (.ref b12), .val (.ref b17), .val (.int (1 : Int32))] [(.int (1 : Int32))])
    refine own_by (fun t_ k_ => XS.istore X51.here hx rfl (hb hby at_209) rfl (l' := #[.val (.int x1), .val (.long y1), .second, .val (.long y2), .second, .val (.long y3), .second, .val (.int x2), .val (.int x3), .val (.int (1 : Int32)), .val (.long ((y1 &&& (7 : Int64)) - (4 : Int64))), .second, .val (.long (((y1 &&& (7 : Int64)) - (4 : Int64)) + ((y1 >>> ((3 : Int32).toInt64 &&& 63)) &&& (3 : Int64)))), .second, .val (.long ((((y1 &&& (7 : Int64)) - (4 : Int64)) + ((y1 >>> ((3 : Int32).toInt64 &&& 63)) &&& (3 : Int64))) + ((y1 >>> ((5 : Int32).toInt64 &&& 63)) &&& (3 : Int64)))), .second, .val (.int (x2 + (x3 &&& (1 : Int32)))), .val (.int (x2 + ((x3 >>> ((1 : Int32) &&& 31)) &&& (1 : Int32)))), .val (.int (x2 + ((x3 >>> ((2 : Int32) &&& 31)) &&& (1 : Int32)))), .val (.ref b1), .val (.ref b5), .val (.ref b8), .val (.ref b12), .val (.ref b17), .val (.int (1 : Int32))]) rfl k_) ?_
    show own_Go p e below _ T51 (mkF m 211 #[.val (.int x1), .val (.long y1), .second, .val (.long y2), .second, .val (.long y3), .second, .val (.int x2), .val (.int x3), .val (.int (1 : Int32)), .val (.long ((y1 &&& (7 : Int64)) - (4 : Int64))), .second, .val (.long (((y1 &&& (7 : Int64)) - (4 : Int64)) + ((y1 >>> ((3 : Int32).toInt64 &&& 63)) &&& (3 : Int64)))), .second, .val (.long ((((y1 &&& (7 : Int64)) - (4 : Int64)) + ((y1 >>> ((3 : Int32).toInt64 &&& 63)) &&& (3 : Int64))) + ((y1 >>> ((5 : Int32).toInt64 &&& 63)) &&& (3 : Int64)))), .second, .val (.int (x2 + (x3 &&& (1 : Int32)))), .val (.int (x2 + ((x3 >>> ((1 : Int32) &&& 31)) &&& (1 : Int32)))), .val (.int (x2 + ((x3 >>> ((2 : Int32) &&& 31)) &&& (1 : Int32)))), .val (.ref b1), .val (.ref b5), .val (.ref b8), .val (.ref b12), .val (.ref b17), .val (.int (1 : Int32))] [])
    refine own_by (fun t_ k_ => XS.aload X51.here hx rfl (hb hby at_211) rfl rfl k_) ?_
    show own_Go p e below _ T51 (mkF m 213 #[.val (.int x1), .val (.long y1), .second, .val (.long y2), .second, .val (.long y3), .second, .val (.int x2), .val (.int x3), .val (.int (1 : Int32)), .val (.long ((y1 &&& (7 : Int64)) - (4 : Int64))), .second, .val (.long (((y1 &&& (7 : Int64)) - (4 : Int64)) + ((y1 >>> ((3 : Int32).toInt64 &&& 63)) &&& (3 : Int64)))), .second, .val (.long ((((y1 &&& (7 : Int64)) - (4 : Int64)) + ((y1 >>> ((3 : Int32).toInt64 &&& 63)) &&& (3 : Int64))) + ((y1 >>> ((5 : Int32).toInt64 &&& 63)) &&& (3 : Int64)))), .second, .val (.int (x2 + (x3 &&& (1 : Int32)))), .val (.int (x2 + ((x3 >>> ((1 : Int32) &&& 31)) &&& (1 : Int32)))), .val (.int (x2 + ((x3 >>> ((2 : Int32) &&& 31)) &&& (1 : Int32)))), .val (.ref b1), .val (.ref b5), .val (.ref b8), .val (.ref b12), .val (.ref b17), .val (.int (1 : Int32))] [(.ref b17)])
    refine own_by (fun t_ k_ => XS.aload X51.here hx rfl (hb hby at_213) rfl rfl k_) ?_
    show own_Go p e below _ T51 (mkF m 215 #[.val (.int x1), .val (.long y1), .second, .val (.long y2), .second, .val (.long y3), .second, .val (.int x2), .val (.int x3), .val (.int (1 : Int32)), .val (.long ((y1 &&& (7 : Int64)) - (4 : Int64))), .second, .val (.long (((y1 &&& (7 : Int64)) - (4 : Int64)) + ((y1 >>> ((3 : Int32).toInt64 &&& 63)) &&& (3 : Int64)))), .second, .val (.long ((((y1 &&& (7 : Int64)) - (4 : Int64)) + ((y1 >>> ((3 : Int32).toInt64 &&& 63)) &&& (3 : Int64))) + ((y1 >>> ((5 : Int32).toInt64 &&& 63)) &&& (3 : Int64)))), .second, .val (.int (x2 + (x3 &&& (1 : Int32)))), .val (.int (x2 + ((x3 >>> ((1 : Int32) &&& 31)) &&& (1 : Int32)))), .val (.int (x2 + ((x3 >>> ((2 : Int32) &&& 31)) &&& (1 : Int32)))), .val (.ref b1), .val (.ref b5), .val (.ref b8), .val (.ref b12), .val (.ref b17), .val (.int (1 : Int32))] [(.ref b1), (.ref b17)])
    refine own_by (fun t_ k_ => XS.iloadN X51.here hx rfl (hb hby at_215) rfl k_) ?_
    show own_Go p e below _ T51 (mkF m 216 #[.val (.int x1), .val (.long y1), .second, .val (.long y2), .second, .val (.long y3), .second, .val (.int x2), .val (.int x3), .val (.int (1 : Int32)), .val (.long ((y1 &&& (7 : Int64)) - (4 : Int64))), .second, .val (.long (((y1 &&& (7 : Int64)) - (4 : Int64)) + ((y1 >>> ((3 : Int32).toInt64 &&& 63)) &&& (3 : Int64)))), .second, .val (.long ((((y1 &&& (7 : Int64)) - (4 : Int64)) + ((y1 >>> ((3 : Int32).toInt64 &&& 63)) &&& (3 : Int64))) + ((y1 >>> ((5 : Int32).toInt64 &&& 63)) &&& (3 : Int64)))), .second, .val (.int (x2 + (x3 &&& (1 : Int32)))), .val (.int (x2 + ((x3 >>> ((1 : Int32) &&& 31)) &&& (1 : Int32)))), .val (.int (x2 + ((x3 >>> ((2 : Int32) &&& 31)) &&& (1 : Int32)))), .val (.ref b1), .val (.ref b5), .val (.ref b8), .val (.ref b12), .val (.ref b17), .val (.int (1 : Int32))] [(.int x1), (.ref b1), (.ref b17)])
    refine own_by (fun t_ k_ => XS.iconst X51.here hx rfl (hb hby at_216) k_) ?_
    show own_Go p e below _ T51 (mkF m 217 #[.val (.int x1), .val (.long y1), .second, .val (.long y2), .second, .val (.long y3), .second, .val (.int x2), .val (.int x3), .val (.int (1 : Int32)), .val (.long ((y1 &&& (7 : Int64)) - (4 : Int64))), .second, .val (.long (((y1 &&& (7 : Int64)) - (4 : Int64)) + ((y1 >>> ((3 : Int32).toInt64 &&& 63)) &&& (3 : Int64)))), .second, .val (.long ((((y1 &&& (7 : Int64)) - (4 : Int64)) + ((y1 >>> ((3 : Int32).toInt64 &&& 63)) &&& (3 : Int64))) + ((y1 >>> ((5 : Int32).toInt64 &&& 63)) &&& (3 : Int64)))), .second, .val (.int (x2 + (x3 &&& (1 : Int32)))), .val (.int (x2 + ((x3 >>> ((1 : Int32) &&& 31)) &&& (1 : Int32)))), .val (.int (x2 + ((x3 >>> ((2 : Int32) &&& 31)) &&& (1 : Int32)))), .val (.ref b1), .val (.ref b5), .val (.ref b8), .val (.ref b12), .val (.ref b17), .val (.int (1 : Int32))] [(.int (2 : Int32)), (.int x1), (.ref b1), (.ref b17)])
    refine own_by (fun t_ k_ => XT.ishr X51.here hx rfl (hb hby at_217) rfl k_) ?_
    show own_Go p e below _ T51 (mkF m 218 #[.val (.int x1), .val (.long y1), .second, .val (.long y2), .second, .val (.long y3), .second, .val (.int x2), .val (.int x3), .val (.int (1 : Int32)), .val (.long ((y1 &&& (7 : Int64)) - (4 : Int64))), .second, .val (.long (((y1 &&& (7 : Int64)) - (4 : Int64)) + ((y1 >>> ((3 : Int32).toInt64 &&& 63)) &&& (3 : Int64)))), .second, .val (.long ((((y1 &&& (7 : Int64)) - (4 : Int64)) + ((y1 >>> ((3 : Int32).toInt64 &&& 63)) &&& (3 : Int64))) + ((y1 >>> ((5 : Int32).toInt64 &&& 63)) &&& (3 : Int64)))), .second, .val (.int (x2 + (x3 &&& (1 : Int32)))), .val (.int (x2 + ((x3 >>> ((1 : Int32) &&& 31)) &&& (1 : Int32)))), .val (.int (x2 + ((x3 >>> ((2 : Int32) &&& 31)) &&& (1 : Int32)))), .val (.ref b1), .val (.ref b5), .val (.ref b8), .val (.ref b12), .val (.ref b17), .val (.int (1 : Int32))] [(.int (x1 >>> ((2 : Int32) &&& 31))), (.ref b1), (.ref b17)])
    refine own_by (fun t_ k_ => XS.iloadN X51.here hx rfl (hb hby at_218) rfl k_) ?_
    show own_Go p e below _ T51 (mkF m 219 #[.val (.int x1), .val (.long y1), .second, .val (.long y2), .second, .val (.long y3), .second, .val (.int x2), .val (.int x3), .val (.int (1 : Int32)), .val (.long ((y1 &&& (7 : Int64)) - (4 : Int64))), .second, .val (.long (((y1 &&& (7 : Int64)) - (4 : Int64)) + ((y1 >>> ((3 : Int32).toInt64 &&& 63)) &&& (3 : Int64)))), .second, .val (.long ((((y1 &&& (7 : Int64)) - (4 : Int64)) + ((y1 >>> ((3 : Int32).toInt64 &&& 63)) &&& (3 : Int64))) + ((y1 >>> ((5 : Int32).toInt64 &&& 63)) &&& (3 : Int64)))), .second, .val (.int (x2 + (x3 &&& (1 : Int32)))), .val (.int (x2 + ((x3 >>> ((1 : Int32) &&& 31)) &&& (1 : Int32)))), .val (.int (x2 + ((x3 >>> ((2 : Int32) &&& 31)) &&& (1 : Int32)))), .val (.ref b1), .val (.ref b5), .val (.ref b8), .val (.ref b12), .val (.ref b17), .val (.int (1 : Int32))] [(.int x1), (.int (x1 >>> ((2 : Int32) &&& 31))), (.ref b1), (.ref b17)])
    refine own_by (fun t_ k_ => XS.iconst X51.here hx rfl (hb hby at_219) k_) ?_
    show own_Go p e below _ T51 (mkF m 220 #[.val (.int x1), .val (.long y1), .second, .val (.long y2), .second, .val (.long y3), .second, .val (.int x2), .val (.int x3), .val (.int (1 : Int32)), .val (.long ((y1 &&& (7 : Int64)) - (4 : Int64))), .second, .val (.long (((y1 &&& (7 : Int64)) - (4 : Int64)) + ((y1 >>> ((3 : Int32).toInt64 &&& 63)) &&& (3 : Int64)))), .second, .val (.long ((((y1 &&& (7 : Int64)) - (4 : Int64)) + ((y1 >>> ((3 : Int32).toInt64 &&& 63)) &&& (3 : Int64))) + ((y1 >>> ((5 : Int32).toInt64 &&& 63)) &&& (3 : Int64)))), .second, .val (.int (x2 + (x3 &&& (1 : Int32)))), .val (.int (x2 + ((x3 >>> ((1 : Int32) &&& 31)) &&& (1 : Int32)))), .val (.int (x2 + ((x3 >>> ((2 : Int32) &&& 31)) &&& (1 : Int32)))), .val (.ref b1), .val (.ref b5), .val (.ref b8), .val (.ref b12), .val (.ref b17), .val (.int (1 : Int32))] [(.int (4 : Int32)), (.int x1), (.int (x1 >>> ((2 : Int32) &&& 31))), (.ref b1), (.ref b17)])
    refine own_by (fun t_ k_ => XT.ishr X51.here hx rfl (hb hby at_220) rfl k_) ?_
    show own_Go p e below _ T51 (mkF m 221 #[.val (.int x1), .val (.long y1), .second, .val (.long y2), .second, .val (.long y3), .second, .val (.int x2), .val (.int x3), .val (.int (1 : Int32)), .val (.long ((y1 &&& (7 : Int64)) - (4 : Int64))), .second, .val (.long (((y1 &&& (7 : Int64)) - (4 : Int64)) + ((y1 >>> ((3 : Int32).toInt64 &&& 63)) &&& (3 : Int64)))), .second, .val (.long ((((y1 &&& (7 : Int64)) - (4 : Int64)) + ((y1 >>> ((3 : Int32).toInt64 &&& 63)) &&& (3 : Int64))) + ((y1 >>> ((5 : Int32).toInt64 &&& 63)) &&& (3 : Int64)))), .second, .val (.int (x2 + (x3 &&& (1 : Int32)))), .val (.int (x2 + ((x3 >>> ((1 : Int32) &&& 31)) &&& (1 : Int32)))), .val (.int (x2 + ((x3 >>> ((2 : Int32) &&& 31)) &&& (1 : Int32)))), .val (.ref b1), .val (.ref b5), .val (.ref b8), .val (.ref b12), .val (.ref b17), .val (.int (1 : Int32))] [(.int (x1 >>> ((4 : Int32) &&& 31))), (.int (x1 >>> ((2 : Int32) &&& 31))), (.ref b1), (.ref b17)])
    refine own_by (fun t_ k_ => XT.lloadN X51.here hx rfl (hb hby at_221) rfl k_) ?_
    show own_Go p e below _ T51 (mkF m 222 #[.val (.int x1), .val (.long y1), .second, .val (.long y2), .second, .val (.long y3), .second, .val (.int x2), .val (.int x3), .val (.int (1 : Int32)), .val (.long ((y1 &&& (7 : Int64)) - (4 : Int64))), .second, .val (.long (((y1 &&& (7 : Int64)) - (4 : Int64)) + ((y1 >>> ((3 : Int32).toInt64 &&& 63)) &&& (3 : Int64)))), .second, .val (.long ((((y1 &&& (7 : Int64)) - (4 : Int64)) + ((y1 >>> ((3 : Int32).toInt64 &&& 63)) &&& (3 : Int64))) + ((y1 >>> ((5 : Int32).toInt64 &&& 63)) &&& (3 : Int64)))), .second, .val (.int (x2 + (x3 &&& (1 : Int32)))), .val (.int (x2 + ((x3 >>> ((1 : Int32) &&& 31)) &&& (1 : Int32)))), .val (.int (x2 + ((x3 >>> ((2 : Int32) &&& 31)) &&& (1 : Int32)))), .val (.ref b1), .val (.ref b5), .val (.ref b8), .val (.ref b12), .val (.ref b17), .val (.int (1 : Int32))] [(.long y2), (.int (x1 >>> ((4 : Int32) &&& 31))), (.int (x1 >>> ((2 : Int32) &&& 31))), (.ref b1), (.ref b17)])
    refine own_callS (W := 3) X51 hx hZ (y := (⟨"com/example/hedgewalk/hedgewalk/eval/GoalQueueHasOpenPinLaw", "limit", "(IJ)J"⟩ : MethodName)) hown (own_w hw 76 rfl) (own_w hw 77 rfl) (own_w hw 78 rfl) (own_w hw 79 rfl) (by decide) (by rw [hml]; rfl) (argsL := [(.int (x1 >>> ((4 : Int32) &&& 31))), (.long y2)]) pd_3 rfl (rm10 l Z a0 hw [] (x1 >>> ((4 : Int32) &&& 31)) y2 T49.heap n0 sz50_) (by decide) (by decide) (Nat.le_of_eq rfl) (by decide) (by decide) (rest := [(.int (x1 >>> ((2 : Int32) &&& 31))), (.ref b1), (.ref b17)]) e51 rfl (hb hby at_222) ?_
    intro v52 T52 L52 X52 hQ52
    obtain ⟨z52, rfl, N52q, e52⟩ := hQ52
    have N52 := Fr.app N51 N52q
    show own_Go p e below _ T52 (mkF m 225 #[.val (.int x1), .val (.long y1), .second, .val (.long y2), .second, .val (.long y3), .second, .val (.int x2), .val (.int x3), .val (.int (1 : Int32)), .val (.long ((y1 &&& (7 : Int64)) - (4 : Int64))), .second, .val (.long (((y1 &&& (7 : Int64)) - (4 : Int64)) + ((y1 >>> ((3 : Int32).toInt64 &&& 63)) &&& (3 : Int64)))), .second, .val (.long ((((y1 &&& (7 : Int64)) - (4 : Int64)) + ((y1 >>> ((3 : Int32).toInt64 &&& 63)) &&& (3 : Int64))) + ((y1 >>> ((5 : Int32).toInt64 &&& 63)) &&& (3 : Int64)))), .second, .val (.int (x2 + (x3 &&& (1 : Int32)))), .val (.int (x2 + ((x3 >>> ((1 : Int32) &&& 31)) &&& (1 : Int32)))), .val (.int (x2 + ((x3 >>> ((2 : Int32) &&& 31)) &&& (1 : Int32)))), .val (.ref b1), .val (.ref b5), .val (.ref b8), .val (.ref b12), .val (.ref b17), .val (.int (1 : Int32))] [(.long z52), (.int (x1 >>> ((2 : Int32) &&& 31))), (.ref b1), (.ref b17)])
    refine own_by (fun t_ k_ => XS.iload X52.here hx rfl (hb hby at_225) rfl k_) ?_
    show own_Go p e below _ T52 (mkF m 227 #[.val (.int x1), .val (.long y1), .second, .val (.long y2), .second, .val (.long y3), .second, .val (.int x2), .val (.int x3), .val (.int (1 : Int32)), .val (.long ((y1 &&& (7 : Int64)) - (4 : Int64))), .second, .val (.long (((y1 &&& (7 : Int64)) - (4 : Int64)) + ((y1 >>> ((3 : Int32).toInt64 &&& 63)) &&& (3 : Int64)))), .second, .val (.long ((((y1 &&& (7 : Int64)) - (4 : Int64)) + ((y1 >>> ((3 : Int32).toInt64 &&& 63)) &&& (3 : Int64))) + ((y1 >>> ((5 : Int32).toInt64 &&& 63)) &&& (3 : Int64)))), .second, .val (.int (x2 + (x3 &&& (1 : Int32)))), .val (.int (x2 + ((x3 >>> ((1 : Int32) &&& 31)) &&& (1 : Int32)))), .val (.int (x2 + ((x3 >>> ((2 : Int32) &&& 31)) &&& (1 : Int32)))), .val (.ref b1), .val (.ref b5), .val (.ref b8), .val (.ref b12), .val (.ref b17), .val (.int (1 : Int32))] [(.int x2), (.long z52), (.int (x1 >>> ((2 : Int32) &&& 31))), (.ref b1), (.ref b17)])
    refine own_by (fun t_ k_ => XS.iload X52.here hx rfl (hb hby at_227) rfl k_) ?_
    show own_Go p e below _ T52 (mkF m 229 #[.val (.int x1), .val (.long y1), .second, .val (.long y2), .second, .val (.long y3), .second, .val (.int x2), .val (.int x3), .val (.int (1 : Int32)), .val (.long ((y1 &&& (7 : Int64)) - (4 : Int64))), .second, .val (.long (((y1 &&& (7 : Int64)) - (4 : Int64)) + ((y1 >>> ((3 : Int32).toInt64 &&& 63)) &&& (3 : Int64)))), .second, .val (.long ((((y1 &&& (7 : Int64)) - (4 : Int64)) + ((y1 >>> ((3 : Int32).toInt64 &&& 63)) &&& (3 : Int64))) + ((y1 >>> ((5 : Int32).toInt64 &&& 63)) &&& (3 : Int64)))), .second, .val (.int (x2 + (x3 &&& (1 : Int32)))), .val (.int (x2 + ((x3 >>> ((1 : Int32) &&& 31)) &&& (1 : Int32)))), .val (.int (x2 + ((x3 >>> ((2 : Int32) &&& 31)) &&& (1 : Int32)))), .val (.ref b1), .val (.ref b5), .val (.ref b8), .val (.ref b12), .val (.ref b17), .val (.int (1 : Int32))] [(.int x3), (.int x2), (.long z52), (.int (x1 >>> ((2 : Int32) &&& 31))), (.ref b1), (.ref b17)])
    refine own_by (fun t_ k_ => XS.iconst X52.here hx rfl (hb hby at_229) k_) ?_
    show own_Go p e below _ T52 (mkF m 230 #[.val (.int x1), .val (.long y1), .second, .val (.long y2), .second, .val (.long y3), .second, .val (.int x2), .val (.int x3), .val (.int (1 : Int32)), .val (.long ((y1 &&& (7 : Int64)) - (4 : Int64))), .second, .val (.long (((y1 &&& (7 : Int64)) - (4 : Int64)) + ((y1 >>> ((3 : Int32).toInt64 &&& 63)) &&& (3 : Int64)))), .second, .val (.long ((((y1 &&& (7 : Int64)) - (4 : Int64)) + ((y1 >>> ((3 : Int32).toInt64 &&& 63)) &&& (3 : Int64))) + ((y1 >>> ((5 : Int32).toInt64 &&& 63)) &&& (3 : Int64)))), .second, .val (.int (x2 + (x3 &&& (1 : Int32)))), .val (.int (x2 + ((x3 >>> ((1 : Int32) &&& 31)) &&& (1 : Int32)))), .val (.int (x2 + ((x3 >>> ((2 : Int32) &&& 31)) &&& (1 : Int32)))), .val (.ref b1), .val (.ref b5), .val (.ref b8), .val (.ref b12), .val (.ref b17), .val (.int (1 : Int32))] [(.int (4 : Int32)), (.int x3), (.int x2), (.long z52), (.int (x1 >>> ((2 : Int32) &&& 31))), (.ref b1), (.ref b17)])
    refine own_by (fun t_ k_ => XT.ishr X52.here hx rfl (hb hby at_230) rfl k_) ?_
    show own_Go p e below _ T52 (mkF m 231 #[.val (.int x1), .val (.long y1), .second, .val (.long y2), .second, .val (.long y3), .second, .val (.int x2), .val (.int x3), .val (.int (1 : Int32)), .val (.long ((y1 &&& (7 : Int64)) - (4 : Int64))), .second, .val (.long (((y1 &&& (7 : Int64)) - (4 : Int64)) + ((y1 >>> ((3 : Int32).toInt64 &&& 63)) &&& (3 : Int64)))), .second, .val (.long ((((y1 &&& (7 : Int64)) - (4 : Int64)) + ((y1 >>> ((3 : Int32).toInt64 &&& 63)) &&& (3 : Int64))) + ((y1 >>> ((5 : Int32).toInt64 &&& 63)) &&& (3 : Int64)))), .second, .val (.int (x2 + (x3 &&& (1 : Int32)))), .val (.int (x2 + ((x3 >>> ((1 : Int32) &&& 31)) &&& (1 : Int32)))), .val (.int (x2 + ((x3 >>> ((2 : Int32) &&& 31)) &&& (1 : Int32)))), .val (.ref b1), .val (.ref b5), .val (.ref b8), .val (.ref b12), .val (.ref b17), .val (.int (1 : Int32))] [(.int (x3 >>> ((4 : Int32) &&& 31))), (.int x2), (.long z52), (.int (x1 >>> ((2 : Int32) &&& 31))), (.ref b1), (.ref b17)])
    refine own_by (fun t_ k_ => XS.iconst X52.here hx rfl (hb hby at_231) k_) ?_
    show own_Go p e below _ T52 (mkF m 232 #[.val (.int x1), .val (.long y1), .second, .val (.long y2), .second, .val (.long y3), .second, .val (.int x2), .val (.int x3), .val (.int (1 : Int32)), .val (.long ((y1 &&& (7 : Int64)) - (4 : Int64))), .second, .val (.long (((y1 &&& (7 : Int64)) - (4 : Int64)) + ((y1 >>> ((3 : Int32).toInt64 &&& 63)) &&& (3 : Int64)))), .second, .val (.long ((((y1 &&& (7 : Int64)) - (4 : Int64)) + ((y1 >>> ((3 : Int32).toInt64 &&& 63)) &&& (3 : Int64))) + ((y1 >>> ((5 : Int32).toInt64 &&& 63)) &&& (3 : Int64)))), .second, .val (.int (x2 + (x3 &&& (1 : Int32)))), .val (.int (x2 + ((x3 >>> ((1 : Int32) &&& 31)) &&& (1 : Int32)))), .val (.int (x2 + ((x3 >>> ((2 : Int32) &&& 31)) &&& (1 : Int32)))), .val (.ref b1), .val (.ref b5), .val (.ref b8), .val (.ref b12), .val (.ref b17), .val (.int (1 : Int32))] [(.int (1 : Int32)), (.int (x3 >>> ((4 : Int32) &&& 31))), (.int x2), (.long z52), (.int (x1 >>> ((2 : Int32) &&& 31))), (.ref b1), (.ref b17)])
    refine own_by (fun t_ k_ => XS.iand X52.here hx rfl (hb hby at_232) rfl k_) ?_
    show own_Go p e below _ T52 (mkF m 233 #[.val (.int x1), .val (.long y1), .second, .val (.long y2), .second, .val (.long y3), .second, .val (.int x2), .val (.int x3), .val (.int (1 : Int32)), .val (.long ((y1 &&& (7 : Int64)) - (4 : Int64))), .second, .val (.long (((y1 &&& (7 : Int64)) - (4 : Int64)) + ((y1 >>> ((3 : Int32).toInt64 &&& 63)) &&& (3 : Int64)))), .second, .val (.long ((((y1 &&& (7 : Int64)) - (4 : Int64)) + ((y1 >>> ((3 : Int32).toInt64 &&& 63)) &&& (3 : Int64))) + ((y1 >>> ((5 : Int32).toInt64 &&& 63)) &&& (3 : Int64)))), .second, .val (.int (x2 + (x3 &&& (1 : Int32)))), .val (.int (x2 + ((x3 >>> ((1 : Int32) &&& 31)) &&& (1 : Int32)))), .val (.int (x2 + ((x3 >>> ((2 : Int32) &&& 31)) &&& (1 : Int32)))), .val (.ref b1), .val (.ref b5), .val (.ref b8), .val (.ref b12), .val (.ref b17), .val (.int (1 : Int32))] [(.int ((x3 >>> ((4 : Int32) &&& 31)) &&& (1 : Int32))), (.int x2), (.long z52), (.int (x1 >>> ((2 : Int32) &&& 31))), (.ref b1), (.ref b17)])
    refine own_by (fun t_ k_ => XS.iadd X52.here hx rfl (hb hby at_233) rfl k_) ?_
    show own_Go p e below _ T52 (mkF m 234 #[.val (.int x1), .val (.long y1), .second, .val (.long y2), .second, .val (.long y3), .second, .val (.int x2), .val (.int x3), .val (.int (1 : Int32)), .val (.long ((y1 &&& (7 : Int64)) - (4 : Int64))), .second, .val (.long (((y1 &&& (7 : Int64)) - (4 : Int64)) + ((y1 >>> ((3 : Int32).toInt64 &&& 63)) &&& (3 : Int64)))), .second, .val (.long ((((y1 &&& (7 : Int64)) - (4 : Int64)) + ((y1 >>> ((3 : Int32).toInt64 &&& 63)) &&& (3 : Int64))) + ((y1 >>> ((5 : Int32).toInt64 &&& 63)) &&& (3 : Int64)))), .second, .val (.int (x2 + (x3 &&& (1 : Int32)))), .val (.int (x2 + ((x3 >>> ((1 : Int32) &&& 31)) &&& (1 : Int32)))), .val (.int (x2 + ((x3 >>> ((2 : Int32) &&& 31)) &&& (1 : Int32)))), .val (.ref b1), .val (.ref b5), .val (.ref b8), .val (.ref b12), .val (.ref b17), .val (.int (1 : Int32))] [(.int (x2 + ((x3 >>> ((4 : Int32) &&& 31)) &&& (1 : Int32)))), (.long z52), (.int (x1 >>> ((2 : Int32) &&& 31))), (.ref b1), (.ref b17)])
    refine own_callS (W := 0) X52 hx hZ (y := (⟨"com/example/hedgewalk/hedgewalk/eval/GoalQueueHasOpenPinLaw", "step", "(Lcom/example/hedgewalk/hedgewalk/eval/GoalQueue;Lcom/example/hedgewalk/hedgewalk/eval/Agenda;IJI)V"⟩ : MethodName)) hown (own_w hw 81 rfl) (own_w hw 82 rfl) (own_w hw 78 rfl) (own_w hw 83 rfl) (by decide) (by rw [hml]; rfl) (argsL := [(.ref b17), (.ref b1), (.int (x1 >>> ((2 : Int32) &&& 31))), (.long z52), (.int (x2 + ((x3 >>> ((4 : Int32) &&& 31)) &&& (1 : Int32))))]) pd_4 rfl (rm11 l Z a0 hw [] b17 b1 (x1 >>> ((2 : Int32) &&& 31)) z52 (x2 + ((x3 >>> ((4 : Int32) &&& 31)) &&& (1 : Int32))) aH aF bk bh bg ([b5, b8, b12] : List Addr) ([b5] : List Addr) ([b5] : List Addr) ([b8, b12] : List Addr) 1 0 T49.heap n0 sz50_ HW50_) (by decide) (by decide) (Nat.le_of_eq rfl) (by decide) (by decide) (rest := []) e52 rfl (hb hby at_234) ?_
    intro v53 T53 L53 X53 hQ53
    obtain ⟨O53, s53, f53, rfl, N53q, HX53⟩ := hQ53
    have N53 := Fr.app N52 N53q
    have HW54_ : own_W Z T53.heap n0 aH aF b17 bk bh bg b1 ([b5, b8, b12] : List Addr) O53 ([b5] : List Addr) ([b8, b12] : List Addr) s53 f53 := HX53
    have Eq54 := HW54_.exa
    have sz54_ := HW54_.sz
    show own_Go p e below _ T53 (mkF m 237 #[.val (.int x1), .val (.long y1), .second, .val (.long y2), .second, .val (.long y3), .second, .val (.int x2), .val (.int x3), .val (.int (1 : Int32)), .val (.long ((y1 &&& (7 : Int64)) - (4 : Int64))), .second, .val (.long (((y1 &&& (7 : Int64)) - (4 : Int64)) + ((y1 >>> ((3 : Int32).toInt64 &&& 63)) &&& (3 : Int64)))), .second, .val (.long ((((y1 &&& (7 : Int64)) - (4 : Int64)) + ((y1 >>> ((3 : Int32).toInt64 &&& 63)) &&& (3 : Int64))) + ((y1 >>> ((5 : Int32).toInt64 &&& 63)) &&& (3 : Int64)))), .second, .val (.int (x2 + (x3 &&& (1 : Int32)))), .val (.int (x2 + ((x3 >>> ((1 : Int32) &&& 31)) &&& (1 : Int32)))), .val (.int (x2 + ((x3 >>> ((2 : Int32) &&& 31)) &&& (1 : Int32)))), .val (.ref b1), .val (.ref b5), .val (.ref b8), .val (.ref b12), .val (.ref b17), .val (.int (1 : Int32))] [])
    refine own_by (fun t_ k_ => XS.iload X53.here hx rfl (hb hby at_237) rfl k_) ?_
    show own_Go p e below _ T53 (mkF m 239 #[.val (.int x1), .val (.long y1), .second, .val (.long y2), .second, .val (.long y3), .second, .val (.int x2), .val (.int x3), .val (.int (1 : Int32)), .val (.long ((y1 &&& (7 : Int64)) - (4 : Int64))), .second, .val (.long (((y1 &&& (7 : Int64)) - (4 : Int64)) + ((y1 >>> ((3 : Int32).toInt64 &&& 63)) &&& (3 : Int64)))), .second, .val (.long ((((y1 &&& (7 : Int64)) - (4 : Int64)) + ((y1 >>> ((3 : Int32).toInt64 &&& 63)) &&& (3 : Int64))) + ((y1 >>> ((5 : Int32).toInt64 &&& 63)) &&& (3 : Int64)))), .second, .val (.int (x2 + (x3 &&& (1 : Int32)))), .val (.int (x2 + ((x3 >>> ((1 : Int32) &&& 31)) &&& (1 : Int32)))), .val (.int (x2 + ((x3 >>> ((2 : Int32) &&& 31)) &&& (1 : Int32)))), .val (.ref b1), .val (.ref b5), .val (.ref b8), .val (.ref b12), .val (.ref b17), .val (.int (1 : Int32))] [(.int (1 : Int32))])
    refine own_if X53 hx 265 (hb hby at_239) (by decide) (by decide) (fun hc => absurd (show ¬ (1 : Int32) = (0 : Int32) from by decide) (by first | exact hc | exact not_not_intro hc)) (fun _ => ?_)
    show own_Go p e below _ T53 (mkF m 242 #[.val (.int x1), .val (.long y1), .second, .val (.long y2), .second, .val (.long y3), .second, .val (.int x2), .val (.int x3), .val (.int (1 : Int32)), .val (.long ((y1 &&& (7 : Int64)) - (4 : Int64))), .second, .val (.long (((y1 &&& (7 : Int64)) - (4 : Int64)) + ((y1 >>> ((3 : Int32).toInt64 &&& 63)) &&& (3 : Int64)))), .second, .val (.long ((((y1 &&& (7 : Int64)) - (4 : Int64)) + ((y1 >>> ((3 : Int32).toInt64 &&& 63)) &&& (3 : Int64))) + ((y1 >>> ((5 : Int32).toInt64 &&& 63)) &&& (3 : Int64)))), .second, .val (.int (x2 + (x3 &&& (1 : Int32)))), .val (.int (x2 + ((x3 >>> ((1 : Int32) &&& 31)) &&& (1 : Int32)))), .val (.int (x2 + ((x3 >>> ((2 : Int32) &&& 31)) &&& (1 : Int32)))), .val (.ref b1), .val (.ref b5), .val (.ref b8), .val (.ref b12), .val (.ref b17), .val (.int (1 : Int32))] [])
    refine own_by (fun t_ k_ => XS.aload X53.here hx rfl (hb hby at_242) rfl rfl k_) ?_
    show own_Go p e below _ T53 (mkF m 244 #[.val (.int x1), .val (.long y1), .second, .val (.long y2), .second, .val (.long y3), .second, .val (.int x2), .val (.int x3), .val (.int (1 : Int32)), .val (.long ((y1 &&& (7 : Int64)) - (4 : Int64))), .second, .val (.long (((y1 &&& (7 : Int64)) - (4 : Int64)) + ((y1 >>> ((3 : Int32).toInt64 &&& 63)) &&& (3 : Int64)))), .second, .val (.long ((((y1 &&& (7 : Int64)) - (4 : Int64)) + ((y1 >>> ((3 : Int32).toInt64 &&& 63)) &&& (3 : Int64))) + ((y1 >>> ((5 : Int32).toInt64 &&& 63)) &&& (3 : Int64)))), .second, .val (.int (x2 + (x3 &&& (1 : Int32)))), .val (.int (x2 + ((x3 >>> ((1 : Int32) &&& 31)) &&& (1 : Int32)))), .val (.int (x2 + ((x3 >>> ((2 : Int32) &&& 31)) &&& (1 : Int32)))), .val (.ref b1), .val (.ref b5), .val (.ref b8), .val (.ref b12), .val (.ref b17), .val (.int (1 : Int32))] [(.ref b17)])
    refine own_callV (W := 0) X53 hx hZ (y := (⟨"com/example/hedgewalk/hedgewalk/eval/GoalQueue", "hasOpen", "()Z"⟩ : MethodName)) (z := (⟨"com/example/hedgewalk/hedgewalk/eval/GoalQueue", "hasOpen", "()Z"⟩ : MethodName)) hown (own_w hw 67 rfl) (own_w hw 68 rfl) (notFace_of_selects (args := #[]) (mvT hZ (own_w hw 70 rfl))) (own_w hw 70 rfl) (own_w hw 69 rfl) (own_w hw 52 rfl) (own_w hw 71 rfl) (by decide) (by rw [hml]; rfl) (argsL := []) pd_2 rfl (a := b17) rfl Eq54 (rm9 l Z a0 hw [] b17 aH aF bk bh bg b1 ([b5, b8, b12] : List Addr) O53 ([b5] : List Addr) ([b8, b12] : List Addr) s53 f53 T53.heap n0 sz54_ HW54_) (by decide) (by decide) (Nat.le_of_eq rfl) (by decide) (by decide) (rest := []) rfl (hb hby at_244) ?_
    intro v55 T55 L55 X55 hQ55
    obtain ⟨rfl, N55q, e55⟩ := hQ55
    have N55 := Fr.app N53 N55q
    show own_Go p e below _ T55 (mkF m 247 #[.val (.int x1), .val (.long y1), .second, .val (.long y2), .second, .val (.long y3), .second, .val (.int x2), .val (.int x3), .val (.int (1 : Int32)), .val (.long ((y1 &&& (7 : Int64)) - (4 : Int64))), .second, .val (.long (((y1 &&& (7 : Int64)) - (4 : Int64)) + ((y1 >>> ((3 : Int32).toInt64 &&& 63)) &&& (3 : Int64)))), .second, .val (.long ((((y1 &&& (7 : Int64)) - (4 : Int64)) + ((y1 >>> ((3 : Int32).toInt64 &&& 63)) &&& (3 : Int64))) + ((y1 >>> ((5 : Int32).toInt64 &&& 63)) &&& (3 : Int64)))), .second, .val (.int (x2 + (x3 &&& (1 : Int32)))), .val (.int (x2 + ((x3 >>> ((1 : Int32) &&& 31)) &&& (1 : Int32)))), .val (.int (x2 + ((x3 >>> ((2 : Int32) &&& 31)) &&& (1 : Int32)))), .val (.ref b1), .val (.ref b5), .val (.ref b8), .val (.ref b12), .val (.ref b17), .val (.int (1 : Int32))] [(.int (own_h O53))])
    refine own_by (fun t_ k_ => XS.iload X55.here hx rfl (hb hby at_247) rfl k_) ?_
    show own_Go p e below _ T55 (mkF m 249 #[.val (.int x1), .val (.long y1), .second, .val (.long y2), .second, .val (.long y3), .second, .val (.int x2), .val (.int x3), .val (.int (1 : Int32)), .val (.long ((y1 &&& (7 : Int64)) - (4 : Int64))), .second, .val (.long (((y1 &&& (7 : Int64)) - (4 : Int64)) + ((y1 >>> ((3 : Int32).toInt64 &&& 63)) &&& (3 : Int64)))), .second, .val (.long ((((y1 &&& (7 : Int64)) - (4 : Int64)) + ((y1 >>> ((3 : Int32).toInt64 &&& 63)) &&& (3 : Int64))) + ((y1 >>> ((5 : Int32).toInt64 &&& 63)) &&& (3 : Int64)))), .second, .val (.int (x2 + (x3 &&& (1 : Int32)))), .val (.int (x2 + ((x3 >>> ((1 : Int32) &&& 31)) &&& (1 : Int32)))), .val (.int (x2 + ((x3 >>> ((2 : Int32) &&& 31)) &&& (1 : Int32)))), .val (.ref b1), .val (.ref b5), .val (.ref b8), .val (.ref b12), .val (.ref b17), .val (.int (1 : Int32))] [(.int (1 : Int32)), (.int (own_h O53))])
    refine own_by (fun t_ k_ => XS.aload X55.here hx rfl (hb hby at_249) rfl rfl k_) ?_
    show own_Go p e below _ T55 (mkF m 251 #[.val (.int x1), .val (.long y1), .second, .val (.long y2), .second, .val (.long y3), .second, .val (.int x2), .val (.int x3), .val (.int (1 : Int32)), .val (.long ((y1 &&& (7 : Int64)) - (4 : Int64))), .second, .val (.long (((y1 &&& (7 : Int64)) - (4 : Int64)) + ((y1 >>> ((3 : Int32).toInt64 &&& 63)) &&& (3 : Int64)))), .second, .val (.long ((((y1 &&& (7 : Int64)) - (4 : Int64)) + ((y1 >>> ((3 : Int32).toInt64 &&& 63)) &&& (3 : Int64))) + ((y1 >>> ((5 : Int32).toInt64 &&& 63)) &&& (3 : Int64)))), .second, .val (.int (x2 + (x3 &&& (1 : Int32)))), .val (.int (x2 + ((x3 >>> ((1 : Int32) &&& 31)) &&& (1 : Int32)))), .val (.int (x2 + ((x3 >>> ((2 : Int32) &&& 31)) &&& (1 : Int32)))), .val (.ref b1), .val (.ref b5), .val (.ref b8), .val (.ref b12), .val (.ref b17), .val (.int (1 : Int32))] [(.ref b5), (.int (1 : Int32)), (.int (own_h O53))])
    refine own_by (fun t_ k_ => XS.aload X55.here hx rfl (hb hby at_251) rfl rfl k_) ?_
    show own_Go p e below _ T55 (mkF m 253 #[.val (.int x1), .val (.long y1), .second, .val (.long y2), .second, .val (.long y3), .second, .val (.int x2), .val (.int x3), .val (.int (1 : Int32)), .val (.long ((y1 &&& (7 : Int64)) - (4 : Int64))), .second, .val (.long (((y1 &&& (7 : Int64)) - (4 : Int64)) + ((y1 >>> ((3 : Int32).toInt64 &&& 63)) &&& (3 : Int64)))), .second, .val (.long ((((y1 &&& (7 : Int64)) - (4 : Int64)) + ((y1 >>> ((3 : Int32).toInt64 &&& 63)) &&& (3 : Int64))) + ((y1 >>> ((5 : Int32).toInt64 &&& 63)) &&& (3 : Int64)))), .second, .val (.int (x2 + (x3 &&& (1 : Int32)))), .val (.int (x2 + ((x3 >>> ((1 : Int32) &&& 31)) &&& (1 : Int32)))), .val (.int (x2 + ((x3 >>> ((2 : Int32) &&& 31)) &&& (1 : Int32)))), .val (.ref b1), .val (.ref b5), .val (.ref b8), .val (.ref b12), .val (.ref b17), .val (.int (1 : Int32))] [(.ref b8), (.ref b5), (.int (1 : Int32)), (.int (own_h O53))])
    refine own_by (fun t_ k_ => XS.aload X55.here hx rfl (hb hby at_253) rfl rfl k_) ?_
    show own_Go p e below _ T55 (mkF m 255 #[.val (.int x1), .val (.long y1), .second, .val (.long y2), .second, .val (.long y3), .second, .val (.int x2), .val (.int x3), .val (.int (1 : Int32)), .val (.long ((y1 &&& (7 : Int64)) - (4 : Int64))), .second, .val (.long (((y1 &&& (7 : Int64)) - (4 : Int64)) + ((y1 >>> ((3 : Int32).toInt64 &&& 63)) &&& (3 : Int64)))), .second, .val (.long ((((y1 &&& (7 : Int64)) - (4 : Int64)) + ((y1 >>> ((3 : Int32).toInt64 &&& 63)) &&& (3 : Int64))) + ((y1 >>> ((5 : Int32).toInt64 &&& 63)) &&& (3 : Int64)))), .second, .val (.int (x2 + (x3 &&& (1 : Int32)))), .val (.int (x2 + ((x3 >>> ((1 : Int32) &&& 31)) &&& (1 : Int32)))), .val (.int (x2 + ((x3 >>> ((2 : Int32) &&& 31)) &&& (1 : Int32)))), .val (.ref b1), .val (.ref b5), .val (.ref b8), .val (.ref b12), .val (.ref b17), .val (.int (1 : Int32))] [(.ref b12), (.ref b8), (.ref b5), (.int (1 : Int32)), (.int (own_h O53))])
    refine own_callS (W := 1) X55 hx hZ (y := (⟨"com/example/hedgewalk/hedgewalk/eval/GoalQueueHasOpenPinLaw", "anyOpen", "(ILcom/example/hedgewalk/hedgewalk/eval/Verdict$Told;Lcom/example/hedgewalk/hedgewalk/eval/Verdict$Told;Lcom/example/hedgewalk/hedgewalk/eval/Verdict$Told;)Z"⟩ : MethodName)) hown (own_w hw 89 rfl) (own_w hw 90 rfl) (own_w hw 78 rfl) (own_w hw 91 rfl) (by decide) (by rw [hml]; rfl) (argsL := [(.int (1 : Int32)), (.ref b5), (.ref b8), (.ref b12)]) pd_6 rfl (rm13 l Z a0 hw [] (1 : Int32) b5 b8 b12 b17 aH aF bk bh bg b1 ([b5, b8, b12] : List Addr) O53 ([b5] : List Addr) ([b8, b12] : List Addr) s53 f53 T53.heap n0 sz54_ HW54_ (Or.inr (Or.inl ⟨rfl, rfl⟩))) (by decide) (by decide) (Nat.le_of_eq rfl) (by decide) (by decide) (rest := [(.int (own_h O53))]) e55 rfl (hb hby at_255) ?_
    intro v56 T56 L56 X56 hQ56
    obtain ⟨rfl, N56q, e56⟩ := hQ56
    have N56 := Fr.app N55 N56q
    show own_Go p e below _ T56 (mkF m 258 #[.val (.int x1), .val (.long y1), .second, .val (.long y2), .second, .val (.long y3), .second, .val (.int x2), .val (.int x3), .val (.int (1 : Int32)), .val (.long ((y1 &&& (7 : Int64)) - (4 : Int64))), .second, .val (.long (((y1 &&& (7 : Int64)) - (4 : Int64)) + ((y1 >>> ((3 : Int32).toInt64 &&& 63)) &&& (3 : Int64)))), .second, .val (.long ((((y1 &&& (7 : Int64)) - (4 : Int64)) + ((y1 >>> ((3 : Int32).toInt64 &&& 63)) &&& (3 : Int64))) + ((y1 >>> ((5 : Int32).toInt64 &&& 63)) &&& (3 : Int64)))), .second, .val (.int (x2 + (x3 &&& (1 : Int32)))), .val (.int (x2 + ((x3 >>> ((1 : Int32) &&& 31)) &&& (1 : Int32)))), .val (.int (x2 + ((x3 >>> ((2 : Int32) &&& 31)) &&& (1 : Int32)))), .val (.ref b1), .val (.ref b5), .val (.ref b8), .val (.ref b12), .val (.ref b17), .val (.int (1 : Int32))] [(.int (own_h O53)), (.int (own_h O53))])
    refine own_icmp X56 hx 265 (hb hby at_258) (by decide) (by decide) (fun hc => absurd (show (own_h O53) = (own_h O53) from rfl) (by first | exact hc | exact not_not_intro hc)) (fun _ => ?_)
    show own_Go p e below _ T56 (mkF m 261 #[.val (.int x1), .val (.long y1), .second, .val (.long y2), .second, .val (.long y3), .second, .val (.int x2), .val (.int x3), .val (.int (1 : Int32)), .val (.long ((y1 &&& (7 : Int64)) - (4 : Int64))), .second, .val (.long (((y1 &&& (7 : Int64)) - (4 : Int64)) + ((y1 >>> ((3 : Int32).toInt64 &&& 63)) &&& (3 : Int64)))), .second, .val (.long ((((y1 &&& (7 : Int64)) - (4 : Int64)) + ((y1 >>> ((3 : Int32).toInt64 &&& 63)) &&& (3 : Int64))) + ((y1 >>> ((5 : Int32).toInt64 &&& 63)) &&& (3 : Int64)))), .second, .val (.int (x2 + (x3 &&& (1 : Int32)))), .val (.int (x2 + ((x3 >>> ((1 : Int32) &&& 31)) &&& (1 : Int32)))), .val (.int (x2 + ((x3 >>> ((2 : Int32) &&& 31)) &&& (1 : Int32)))), .val (.ref b1), .val (.ref b5), .val (.ref b8), .val (.ref b12), .val (.ref b17), .val (.int (1 : Int32))] [])
    refine own_by (fun t_ k_ => XS.iconst X56.here hx rfl (hb hby at_261) k_) ?_
    show own_Go p e below _ T56 (mkF m 262 #[.val (.int x1), .val (.long y1), .second, .val (.long y2), .second, .val (.long y3), .second, .val (.int x2), .val (.int x3), .val (.int (1 : Int32)), .val (.long ((y1 &&& (7 : Int64)) - (4 : Int64))), .second, .val (.long (((y1 &&& (7 : Int64)) - (4 : Int64)) + ((y1 >>> ((3 : Int32).toInt64 &&& 63)) &&& (3 : Int64)))), .second, .val (.long ((((y1 &&& (7 : Int64)) - (4 : Int64)) + ((y1 >>> ((3 : Int32).toInt64 &&& 63)) &&& (3 : Int64))) + ((y1 >>> ((5 : Int32).toInt64 &&& 63)) &&& (3 : Int64)))), .second, .val (.int (x2 + (x3 &&& (1 : Int32)))), .val (.int (x2 + ((x3 >>> ((1 : Int32) &&& 31)) &&& (1 : Int32)))), .val (.int (x2 + ((x3 >>> ((2 : Int32) &&& 31)) &&& (1 : Int32)))), .val (.ref b1), .val (.ref b5), .val (.ref b8), .val (.ref b12), .val (.ref b17), .val (.int (1 : Int32))] [(.int (1 : Int32))])
    refine own_by (fun t_ k_ => XS.goto X56.here hx rfl (pc0 := 262) (pc' := 266) rfl (hb hby at_262) (by decide) (by decide) k_) ?_
    show own_Go p e below _ T56 (mkF m 266 #[.val (.int x1), .val (.long y1), .second, .val (.long y2), .second, .val (.long y3), .second, .val (.int x2), .val (.int x3), .val (.int (1 : Int32)), .val (.long ((y1 &&& (7 : Int64)) - (4 : Int64))), .second, .val (.long (((y1 &&& (7 : Int64)) - (4 : Int64)) + ((y1 >>> ((3 : Int32).toInt64 &&& 63)) &&& (3 : Int64)))), .second, .val (.long ((((y1 &&& (7 : Int64)) - (4 : Int64)) + ((y1 >>> ((3 : Int32).toInt64 &&& 63)) &&& (3 : Int64))) + ((y1 >>> ((5 : Int32).toInt64 &&& 63)) &&& (3 : Int64)))), .second, .val (.int (x2 + (x3 &&& (1 : Int32)))), .val (.int (x2 + ((x3 >>> ((1 : Int32) &&& 31)) &&& (1 : Int32)))), .val (.int (x2 + ((x3 >>> ((2 : Int32) &&& 31)) &&& (1 : Int32)))), .val (.ref b1), .val (.ref b5), .val (.ref b8), .val (.ref b12), .val (.ref b17), .val (.int (1 : Int32))] [(.int (1 : Int32))])
    refine own_by (fun t_ k_ => XS.istore X56.here hx rfl (hb hby at_266) rfl (l' := #[.val (.int x1), .val (.long y1), .second, .val (.long y2), .second, .val (.long y3), .second, .val (.int x2), .val (.int x3), .val (.int (1 : Int32)), .val (.long ((y1 &&& (7 : Int64)) - (4 : Int64))), .second, .val (.long (((y1 &&& (7 : Int64)) - (4 : Int64)) + ((y1 >>> ((3 : Int32).toInt64 &&& 63)) &&& (3 : Int64)))), .second, .val (.long ((((y1 &&& (7 : Int64)) - (4 : Int64)) + ((y1 >>> ((3 : Int32).toInt64 &&& 63)) &&& (3 : Int64))) + ((y1 >>> ((5 : Int32).toInt64 &&& 63)) &&& (3 : Int64)))), .second, .val (.int (x2 + (x3 &&& (1 : Int32)))), .val (.int (x2 + ((x3 >>> ((1 : Int32) &&& 31)) &&& (1 : Int32)))), .val (.int (x2 + ((x3 >>> ((2 : Int32) &&& 31)) &&& (1 : Int32)))), .val (.ref b1), .val (.ref b5), .val (.ref b8), .val (.ref b12), .val (.ref b17), .val (.int (1 : Int32))]) rfl k_) ?_
    show own_Go p e below _ T56 (mkF m 268 #[.val (.int x1), .val (.long y1), .second, .val (.long y2), .second, .val (.long y3), .second, .val (.int x2), .val (.int x3), .val (.int (1 : Int32)), .val (.long ((y1 &&& (7 : Int64)) - (4 : Int64))), .second, .val (.long (((y1 &&& (7 : Int64)) - (4 : Int64)) + ((y1 >>> ((3 : Int32).toInt64 &&& 63)) &&& (3 : Int64)))), .second, .val (.long ((((y1 &&& (7 : Int64)) - (4 : Int64)) + ((y1 >>> ((3 : Int32).toInt64 &&& 63)) &&& (3 : Int64))) + ((y1 >>> ((5 : Int32).toInt64 &&& 63)) &&& (3 : Int64)))), .second, .val (.int (x2 + (x3 &&& (1 : Int32)))), .val (.int (x2 + ((x3 >>> ((1 : Int32) &&& 31)) &&& (1 : Int32)))), .val (.int (x2 + ((x3 >>> ((2 : Int32) &&& 31)) &&& (1 : Int32)))), .val (.ref b1), .val (.ref b5), .val (.ref b8), .val (.ref b12), .val (.ref b17), .val (.int (1 : Int32))] [])
    refine own_by (fun t_ k_ => XS.aload X56.here hx rfl (hb hby at_268) rfl rfl k_) ?_
    show own_Go p e below _ T56 (mkF m 270 #[.val (.int x1), .val (.long y1), .second, .val (.long y2), .second, .val (.long y3), .second, .val (.int x2), .val (.int x3), .val (.int (1 : Int32)), .val (.long ((y1 &&& (7 : Int64)) - (4 : Int64))), .second, .val (.long (((y1 &&& (7 : Int64)) - (4 : Int64)) + ((y1 >>> ((3 : Int32).toInt64 &&& 63)) &&& (3 : Int64)))), .second, .val (.long ((((y1 &&& (7 : Int64)) - (4 : Int64)) + ((y1 >>> ((3 : Int32).toInt64 &&& 63)) &&& (3 : Int64))) + ((y1 >>> ((5 : Int32).toInt64 &&& 63)) &&& (3 : Int64)))), .second, .val (.int (x2 + (x3 &&& (1 : Int32)))), .val (.int (x2 + ((x3 >>> ((1 : Int32) &&& 31)) &&& (1 : Int32)))), .val (.int (x2 + ((x3 >>> ((2 : Int32) &&& 31)) &&& (1 : Int32)))), .val (.ref b1), .val (.ref b5), .val (.ref b8), .val (.ref b12), .val (.ref b17), .val (.int (1 : Int32))] [(.ref b17)])
    refine own_by (fun t_ k_ => XS.aload X56.here hx rfl (hb hby at_270) rfl rfl k_) ?_
    show own_Go p e below _ T56 (mkF m 272 #[.val (.int x1), .val (.long y1), .second, .val (.long y2), .second, .val (.long y3), .second, .val (.int x2), .val (.int x3), .val (.int (1 : Int32)), .val (.long ((y1 &&& (7 : Int64)) - (4 : Int64))), .second, .val (.long (((y1 &&& (7 : Int64)) - (4 : Int64)) + ((y1 >>> ((3 : Int32).toInt64 &&& 63)) &&& (3 : Int64)))), .second, .val (.long ((((y1 &&& (7 : Int64)) - (4 : Int64)) + ((y1 >>> ((3 : Int32).toInt64 &&& 63)) &&& (3 : Int64))) + ((y1 >>> ((5 : Int32).toInt64 &&& 63)) &&& (3 : Int64)))), .second, .val (.int (x2 + (x3 &&& (1 : Int32)))), .val (.int (x2 + ((x3 >>> ((1 : Int32) &&& 31)) &&& (1 : Int32)))), .val (.int (x2 + ((x3 >>> ((2 : Int32) &&& 31)) &&& (1 : Int32)))), .val (.ref b1), .val (.ref b5), .val (.ref b8), .val (.ref b12), .val (.ref b17), .val (.int (1 : Int32))] [(.ref b1), (.ref b17)])
    refine own_by (fun t_ k_ => XS.iloadN X56.here hx rfl (hb hby at_272) rfl k_) ?_
    show own_Go p e below _ T56 (mkF m 273 #[.val (.int x1), .val (.long y1), .second, .val (.long y2), .second, .val (.long y3), .second, .val (.int x2), .val (.int x3), .val (.int (1 : Int32)), .val (.long ((y1 &&& (7 : Int64)) - (4 : Int64))), .second, .val (.long (((y1 &&& (7 : Int64)) - (4 : Int64)) + ((y1 >>> ((3 : Int32).toInt64 &&& 63)) &&& (3 : Int64)))), .second, .val (.long ((((y1 &&& (7 : Int64)) - (4 : Int64)) + ((y1 >>> ((3 : Int32).toInt64 &&& 63)) &&& (3 : Int64))) + ((y1 >>> ((5 : Int32).toInt64 &&& 63)) &&& (3 : Int64)))), .second, .val (.int (x2 + (x3 &&& (1 : Int32)))), .val (.int (x2 + ((x3 >>> ((1 : Int32) &&& 31)) &&& (1 : Int32)))), .val (.int (x2 + ((x3 >>> ((2 : Int32) &&& 31)) &&& (1 : Int32)))), .val (.ref b1), .val (.ref b5), .val (.ref b8), .val (.ref b12), .val (.ref b17), .val (.int (1 : Int32))] [(.int x1), (.ref b1), (.ref b17)])
    refine own_by (fun t_ k_ => XS.iconst X56.here hx rfl (hb hby at_273) k_) ?_
    show own_Go p e below _ T56 (mkF m 274 #[.val (.int x1), .val (.long y1), .second, .val (.long y2), .second, .val (.long y3), .second, .val (.int x2), .val (.int x3), .val (.int (1 : Int32)), .val (.long ((y1 &&& (7 : Int64)) - (4 : Int64))), .second, .val (.long (((y1 &&& (7 : Int64)) - (4 : Int64)) + ((y1 >>> ((3 : Int32).toInt64 &&& 63)) &&& (3 : Int64)))), .second, .val (.long ((((y1 &&& (7 : Int64)) - (4 : Int64)) + ((y1 >>> ((3 : Int32).toInt64 &&& 63)) &&& (3 : Int64))) + ((y1 >>> ((5 : Int32).toInt64 &&& 63)) &&& (3 : Int64)))), .second, .val (.int (x2 + (x3 &&& (1 : Int32)))), .val (.int (x2 + ((x3 >>> ((1 : Int32) &&& 31)) &&& (1 : Int32)))), .val (.int (x2 + ((x3 >>> ((2 : Int32) &&& 31)) &&& (1 : Int32)))), .val (.ref b1), .val (.ref b5), .val (.ref b8), .val (.ref b12), .val (.ref b17), .val (.int (1 : Int32))] [(.int (3 : Int32)), (.int x1), (.ref b1), (.ref b17)])
    refine own_by (fun t_ k_ => XT.ishr X56.here hx rfl (hb hby at_274) rfl k_) ?_
    show own_Go p e below _ T56 (mkF m 275 #[.val (.int x1), .val (.long y1), .second, .val (.long y2), .second, .val (.long y3), .second, .val (.int x2), .val (.int x3), .val (.int (1 : Int32)), .val (.long ((y1 &&& (7 : Int64)) - (4 : Int64))), .second, .val (.long (((y1 &&& (7 : Int64)) - (4 : Int64)) + ((y1 >>> ((3 : Int32).toInt64 &&& 63)) &&& (3 : Int64)))), .second, .val (.long ((((y1 &&& (7 : Int64)) - (4 : Int64)) + ((y1 >>> ((3 : Int32).toInt64 &&& 63)) &&& (3 : Int64))) + ((y1 >>> ((5 : Int32).toInt64 &&& 63)) &&& (3 : Int64)))), .second, .val (.int (x2 + (x3 &&& (1 : Int32)))), .val (.int (x2 + ((x3 >>> ((1 : Int32) &&& 31)) &&& (1 : Int32)))), .val (.int (x2 + ((x3 >>> ((2 : Int32) &&& 31)) &&& (1 : Int32)))), .val (.ref b1), .val (.ref b5), .val (.ref b8), .val (.ref b12), .val (.ref b17), .val (.int (1 : Int32))] [(.int (x1 >>> ((3 : Int32) &&& 31))), (.ref b1), (.ref b17)])
    refine own_by (fun t_ k_ => XS.iloadN X56.here hx rfl (hb hby at_275) rfl k_) ?_
    show own_Go p e below _ T56 (mkF m 276 #[.val (.int x1), .val (.long y1), .second, .val (.long y2), .second, .val (.long y3), .second, .val (.int x2), .val (.int x3), .val (.int (1 : Int32)), .val (.long ((y1 &&& (7 : Int64)) - (4 : Int64))), .second, .val (.long (((y1 &&& (7 : Int64)) - (4 : Int64)) + ((y1 >>> ((3 : Int32).toInt64 &&& 63)) &&& (3 : Int64)))), .second, .val (.long ((((y1 &&& (7 : Int64)) - (4 : Int64)) + ((y1 >>> ((3 : Int32).toInt64 &&& 63)) &&& (3 : Int64))) + ((y1 >>> ((5 : Int32).toInt64 &&& 63)) &&& (3 : Int64)))), .second, .val (.int (x2 + (x3 &&& (1 : Int32)))), .val (.int (x2 + ((x3 >>> ((1 : Int32) &&& 31)) &&& (1 : Int32)))), .val (.int (x2 + ((x3 >>> ((2 : Int32) &&& 31)) &&& (1 : Int32)))), .val (.ref b1), .val (.ref b5), .val (.ref b8), .val (.ref b12), .val (.ref b17), .val (.int (1 : Int32))] [(.int x1), (.int (x1 >>> ((3 : Int32) &&& 31))), (.ref b1), (.ref b17)])
    refine own_by (fun t_ k_ => XS.iconst X56.here hx rfl (hb hby at_276) k_) ?_
    show own_Go p e below _ T56 (mkF m 277 #[.val (.int x1), .val (.long y1), .second, .val (.long y2), .second, .val (.long y3), .second, .val (.int x2), .val (.int x3), .val (.int (1 : Int32)), .val (.long ((y1 &&& (7 : Int64)) - (4 : Int64))), .second, .val (.long (((y1 &&& (7 : Int64)) - (4 : Int64)) + ((y1 >>> ((3 : Int32).toInt64 &&& 63)) &&& (3 : Int64)))), .second, .val (.long ((((y1 &&& (7 : Int64)) - (4 : Int64)) + ((y1 >>> ((3 : Int32).toInt64 &&& 63)) &&& (3 : Int64))) + ((y1 >>> ((5 : Int32).toInt64 &&& 63)) &&& (3 : Int64)))), .second, .val (.int (x2 + (x3 &&& (1 : Int32)))), .val (.int (x2 + ((x3 >>> ((1 : Int32) &&& 31)) &&& (1 : Int32)))), .val (.int (x2 + ((x3 >>> ((2 : Int32) &&& 31)) &&& (1 : Int32)))), .val (.ref b1), .val (.ref b5), .val (.ref b8), .val (.ref b12), .val (.ref b17), .val (.int (1 : Int32))] [(.int (5 : Int32)), (.int x1), (.int (x1 >>> ((3 : Int32) &&& 31))), (.ref b1), (.ref b17)])
    refine own_by (fun t_ k_ => XT.ishr X56.here hx rfl (hb hby at_277) rfl k_) ?_
    show own_Go p e below _ T56 (mkF m 278 #[.val (.int x1), .val (.long y1), .second, .val (.long y2), .second, .val (.long y3), .second, .val (.int x2), .val (.int x3), .val (.int (1 : Int32)), .val (.long ((y1 &&& (7 : Int64)) - (4 : Int64))), .second, .val (.long (((y1 &&& (7 : Int64)) - (4 : Int64)) + ((y1 >>> ((3 : Int32).toInt64 &&& 63)) &&& (3 : Int64)))), .second, .val (.long ((((y1 &&& (7 : Int64)) - (4 : Int64)) + ((y1 >>> ((3 : Int32).toInt64 &&& 63)) &&& (3 : Int64))) + ((y1 >>> ((5 : Int32).toInt64 &&& 63)) &&& (3 : Int64)))), .second, .val (.int (x2 + (x3 &&& (1 : Int32)))), .val (.int (x2 + ((x3 >>> ((1 : Int32) &&& 31)) &&& (1 : Int32)))), .val (.int (x2 + ((x3 >>> ((2 : Int32) &&& 31)) &&& (1 : Int32)))), .val (.ref b1), .val (.ref b5), .val (.ref b8), .val (.ref b12), .val (.ref b17), .val (.int (1 : Int32))] [(.int (x1 >>> ((5 : Int32) &&& 31))), (.int (x1 >>> ((3 : Int32) &&& 31))), (.ref b1), (.ref b17)])
    refine own_by (fun t_ k_ => XT.lload X56.here hx rfl (hb hby at_278) rfl k_) ?_
    show own_Go p e below _ T56 (mkF m 280 #[.val (.int x1), .val (.long y1), .second, .val (.long y2), .second, .val (.long y3), .second, .val (.int x2), .val (.int x3), .val (.int (1 : Int32)), .val (.long ((y1 &&& (7 : Int64)) - (4 : Int64))), .second, .val (.long (((y1 &&& (7 : Int64)) - (4 : Int64)) + ((y1 >>> ((3 : Int32).toInt64 &&& 63)) &&& (3 : Int64)))), .second, .val (.long ((((y1 &&& (7 : Int64)) - (4 : Int64)) + ((y1 >>> ((3 : Int32).toInt64 &&& 63)) &&& (3 : Int64))) + ((y1 >>> ((5 : Int32).toInt64 &&& 63)) &&& (3 : Int64)))), .second, .val (.int (x2 + (x3 &&& (1 : Int32)))), .val (.int (x2 + ((x3 >>> ((1 : Int32) &&& 31)) &&& (1 : Int32)))), .val (.int (x2 + ((x3 >>> ((2 : Int32) &&& 31)) &&& (1 : Int32)))), .val (.ref b1), .val (.ref b5), .val (.ref b8), .val (.ref b12), .val (.ref b17), .val (.int (1 : Int32))] [(.long y3), (.int (x1 >>> ((5 : Int32) &&& 31))), (.int (x1 >>> ((3 : Int32) &&& 31))), (.ref b1), (.ref b17)])
    refine own_callS (W := 3) X56 hx hZ (y := (⟨"com/example/hedgewalk/hedgewalk/eval/GoalQueueHasOpenPinLaw", "limit", "(IJ)J"⟩ : MethodName)) hown (own_w hw 76 rfl) (own_w hw 77 rfl) (own_w hw 78 rfl) (own_w hw 79 rfl) (by decide) (by rw [hml]; rfl) (argsL := [(.int (x1 >>> ((5 : Int32) &&& 31))), (.long y3)]) pd_3 rfl (rm10 l Z a0 hw [] (x1 >>> ((5 : Int32) &&& 31)) y3 T53.heap n0 sz54_) (by decide) (by decide) (Nat.le_of_eq rfl) (by decide) (by decide) (rest := [(.int (x1 >>> ((3 : Int32) &&& 31))), (.ref b1), (.ref b17)]) e56 rfl (hb hby at_280) ?_
    intro v57 T57 L57 X57 hQ57
    obtain ⟨z57, rfl, N57q, e57⟩ := hQ57
    have N57 := Fr.app N56 N57q
    show own_Go p e below _ T57 (mkF m 283 #[.val (.int x1), .val (.long y1), .second, .val (.long y2), .second, .val (.long y3), .second, .val (.int x2), .val (.int x3), .val (.int (1 : Int32)), .val (.long ((y1 &&& (7 : Int64)) - (4 : Int64))), .second, .val (.long (((y1 &&& (7 : Int64)) - (4 : Int64)) + ((y1 >>> ((3 : Int32).toInt64 &&& 63)) &&& (3 : Int64)))), .second, .val (.long ((((y1 &&& (7 : Int64)) - (4 : Int64)) + ((y1 >>> ((3 : Int32).toInt64 &&& 63)) &&& (3 : Int64))) + ((y1 >>> ((5 : Int32).toInt64 &&& 63)) &&& (3 : Int64)))), .second, .val (.int (x2 + (x3 &&& (1 : Int32)))), .val (.int (x2 + ((x3 >>> ((1 : Int32) &&& 31)) &&& (1 : Int32)))), .val (.int (x2 + ((x3 >>> ((2 : Int32) &&& 31)) &&& (1 : Int32)))), .val (.ref b1), .val (.ref b5), .val (.ref b8), .val (.ref b12), .val (.ref b17), .val (.int (1 : Int32))] [(.long z57), (.int (x1 >>> ((3 : Int32) &&& 31))), (.ref b1), (.ref b17)])
    refine own_by (fun t_ k_ => XS.iload X57.here hx rfl (hb hby at_283) rfl k_) ?_
    show own_Go p e below _ T57 (mkF m 285 #[.val (.int x1), .val (.long y1), .second, .val (.long y2), .second, .val (.long y3), .second, .val (.int x2), .val (.int x3), .val (.int (1 : Int32)), .val (.long ((y1 &&& (7 : Int64)) - (4 : Int64))), .second, .val (.long (((y1 &&& (7 : Int64)) - (4 : Int64)) + ((y1 >>> ((3 : Int32).toInt64 &&& 63)) &&& (3 : Int64)))), .second, .val (.long ((((y1 &&& (7 : Int64)) - (4 : Int64)) + ((y1 >>> ((3 : Int32).toInt64 &&& 63)) &&& (3 : Int64))) + ((y1 >>> ((5 : Int32).toInt64 &&& 63)) &&& (3 : Int64)))), .second, .val (.int (x2 + (x3 &&& (1 : Int32)))), .val (.int (x2 + ((x3 >>> ((1 : Int32) &&& 31)) &&& (1 : Int32)))), .val (.int (x2 + ((x3 >>> ((2 : Int32) &&& 31)) &&& (1 : Int32)))), .val (.ref b1), .val (.ref b5), .val (.ref b8), .val (.ref b12), .val (.ref b17), .val (.int (1 : Int32))] [(.int x2), (.long z57), (.int (x1 >>> ((3 : Int32) &&& 31))), (.ref b1), (.ref b17)])
    refine own_by (fun t_ k_ => XS.iload X57.here hx rfl (hb hby at_285) rfl k_) ?_
    show own_Go p e below _ T57 (mkF m 287 #[.val (.int x1), .val (.long y1), .second, .val (.long y2), .second, .val (.long y3), .second, .val (.int x2), .val (.int x3), .val (.int (1 : Int32)), .val (.long ((y1 &&& (7 : Int64)) - (4 : Int64))), .second, .val (.long (((y1 &&& (7 : Int64)) - (4 : Int64)) + ((y1 >>> ((3 : Int32).toInt64 &&& 63)) &&& (3 : Int64)))), .second, .val (.long ((((y1 &&& (7 : Int64)) - (4 : Int64)) + ((y1 >>> ((3 : Int32).toInt64 &&& 63)) &&& (3 : Int64))) + ((y1 >>> ((5 : Int32).toInt64 &&& 63)) &&& (3 : Int64)))), .second, .val (.int (x2 + (x3 &&& (1 : Int32)))), .val (.int (x2 + ((x3 >>> ((1 : Int32) &&& 31)) &&& (1 : Int32)))), .val (.int (x2 + ((x3 >>> ((2 : Int32) &&& 31)) &&& (1 : Int32)))), .val (.ref b1), .val (.ref b5), .val (.ref b8), .val (.ref b12), .val (.ref b17), .val (.int (1 : Int32))] [(.int x3), (.int x2), (.long z57), (.int (x1 >>> ((3 : Int32) &&& 31))), (.ref b1), (.ref b17)])
    refine own_by (fun t_ k_ => XS.iconst X57.here hx rfl (hb hby at_287) k_) ?_
    show own_Go p e below _ T57 (mkF m 288 #[.val (.int x1), .val (.long y1), .second, .val (.long y2), .second, .val (.long y3), .second, .val (.int x2), .val (.int x3), .val (.int (1 : Int32)), .val (.long ((y1 &&& (7 : Int64)) - (4 : Int64))), .second, .val (.long (((y1 &&& (7 : Int64)) - (4 : Int64)) + ((y1 >>> ((3 : Int32).toInt64 &&& 63)) &&& (3 : Int64)))), .second, .val (.long ((((y1 &&& (7 : Int64)) - (4 : Int64)) + ((y1 >>> ((3 : Int32).toInt64 &&& 63)) &&& (3 : Int64))) + ((y1 >>> ((5 : Int32).toInt64 &&& 63)) &&& (3 : Int64)))), .second, .val (.int (x2 + (x3 &&& (1 : Int32)))), .val (.int (x2 + ((x3 >>> ((1 : Int32) &&& 31)) &&& (1 : Int32)))), .val (.int (x2 + ((x3 >>> ((2 : Int32) &&& 31)) &&& (1 : Int32)))), .val (.ref b1), .val (.ref b5), .val (.ref b8), .val (.ref b12), .val (.ref b17), .val (.int (1 : Int32))] [(.int (5 : Int32)), (.int x3), (.int x2), (.long z57), (.int (x1 >>> ((3 : Int32) &&& 31))), (.ref b1), (.ref b17)])
    refine own_by (fun t_ k_ => XT.ishr X57.here hx rfl (hb hby at_288) rfl k_) ?_
    show own_Go p e below _ T57 (mkF m 289 #[.val (.int x1), .val (.long y1), .second, .val (.long y2), .second, .val (.long y3), .second, .val (.int x2), .val (.int x3), .val (.int (1 : Int32)), .val (.long ((y1 &&& (7 : Int64)) - (4 : Int64))), .second, .val (.long (((y1 &&& (7 : Int64)) - (4 : Int64)) + ((y1 >>> ((3 : Int32).toInt64 &&& 63)) &&& (3 : Int64)))), .second, .val (.long ((((y1 &&& (7 : Int64)) - (4 : Int64)) + ((y1 >>> ((3 : Int32).toInt64 &&& 63)) &&& (3 : Int64))) + ((y1 >>> ((5 : Int32).toInt64 &&& 63)) &&& (3 : Int64)))), .second, .val (.int (x2 + (x3 &&& (1 : Int32)))), .val (.int (x2 + ((x3 >>> ((1 : Int32) &&& 31)) &&& (1 : Int32)))), .val (.int (x2 + ((x3 >>> ((2 : Int32) &&& 31)) &&& (1 : Int32)))), .val (.ref b1), .val (.ref b5), .val (.ref b8), .val (.ref b12), .val (.ref b17), .val (.int (1 : Int32))] [(.int (x3 >>> ((5 : Int32) &&& 31))), (.int x2), (.long z57), (.int (x1 >>> ((3 : Int32) &&& 31))), (.ref b1), (.ref b17)])
    refine own_by (fun t_ k_ => XS.iconst X57.here hx rfl (hb hby at_289) k_) ?_
    show own_Go p e below _ T57 (mkF m 290 #[.val (.int x1), .val (.long y1), .second, .val (.long y2), .second, .val (.long y3), .second, .val (.int x2), .val (.int x3), .val (.int (1 : Int32)), .val (.long ((y1 &&& (7 : Int64)) - (4 : Int64))), .second, .val (.long (((y1 &&& (7 : Int64)) - (4 : Int64)) + ((y1 >>> ((3 : Int32).toInt64 &&& 63)) &&& (3 : Int64)))), .second, .val (.long ((((y1 &&& (7 : Int64)) - (4 : Int64)) + ((y1 >>> ((3 : Int32).toInt64 &&& 63)) &&& (3 : Int64))) + ((y1 >>> ((5 : Int32).toInt64 &&& 63)) &&& (3 : Int64)))), .second, .val (.int (x2 + (x3 &&& (1 : Int32)))), .val (.int (x2 + ((x3 >>> ((1 : Int32) &&& 31)) &&& (1 : Int32)))), .val (.int (x2 + ((x3 >>> ((2 : Int32) &&& 31)) &&& (1 : Int32)))), .val (.ref b1), .val (.ref b5), .val (.ref b8), .val (.ref b12), .val (.ref b17), .val (.int (1 : Int32))] [(.int (1 : Int32)), (.int (x3 >>> ((5 : Int32) &&& 31))), (.int x2), (.long z57), (.int (x1 >>> ((3 : Int32) &&& 31))), (.ref b1), (.ref b17)])
    refine own_by (fun t_ k_ => XS.iand X57.here hx rfl (hb hby at_290) rfl k_) ?_
    show own_Go p e below _ T57 (mkF m 291 #[.val (.int x1), .val (.long y1), .second, .val (.long y2), .second, .val (.long y3), .second, .val (.int x2), .val (.int x3), .val (.int (1 : Int32)), .val (.long ((y1 &&& (7 : Int64)) - (4 : Int64))), .second, .val (.long (((y1 &&& (7 : Int64)) - (4 : Int64)) + ((y1 >>> ((3 : Int32).toInt64 &&& 63)) &&& (3 : Int64)))), .second, .val (.long ((((y1 &&& (7 : Int64)) - (4 : Int64)) + ((y1 >>> ((3 : Int32).toInt64 &&& 63)) &&& (3 : Int64))) + ((y1 >>> ((5 : Int32).toInt64 &&& 63)) &&& (3 : Int64)))), .second, .val (.int (x2 + (x3 &&& (1 : Int32)))), .val (.int (x2 + ((x3 >>> ((1 : Int32) &&& 31)) &&& (1 : Int32)))), .val (.int (x2 + ((x3 >>> ((2 : Int32) &&& 31)) &&& (1 : Int32)))), .val (.ref b1), .val (.ref b5), .val (.ref b8), .val (.ref b12), .val (.ref b17), .val (.int (1 : Int32))] [(.int ((x3 >>> ((5 : Int32) &&& 31)) &&& (1 : Int32))), (.int x2), (.long z57), (.int (x1 >>> ((3 : Int32) &&& 31))), (.ref b1), (.ref b17)])
    refine own_by (fun t_ k_ => XS.iadd X57.here hx rfl (hb hby at_291) rfl k_) ?_
    show own_Go p e below _ T57 (mkF m 292 #[.val (.int x1), .val (.long y1), .second, .val (.long y2), .second, .val (.long y3), .second, .val (.int x2), .val (.int x3), .val (.int (1 : Int32)), .val (.long ((y1 &&& (7 : Int64)) - (4 : Int64))), .second, .val (.long (((y1 &&& (7 : Int64)) - (4 : Int64)) + ((y1 >>> ((3 : Int32).toInt64 &&& 63)) &&& (3 : Int64)))), .second, .val (.long ((((y1 &&& (7 : Int64)) - (4 : Int64)) + ((y1 >>> ((3 : Int32).toInt64 &&& 63)) &&& (3 : Int64))) + ((y1 >>> ((5 : Int32).toInt64 &&& 63)) &&& (3 : Int64)))), .second, .val (.int (x2 + (x3 &&& (1 : Int32)))), .val (.int (x2 + ((x3 >>> ((1 : Int32) &&& 31)) &&& (1 : Int32)))), .val (.int (x2 + ((x3 >>> ((2 : Int32) &&& 31)) &&& (1 : Int32)))), .val (.ref b1), .val (.ref b5), .val (.ref b8), .val (.ref b12), .val (.ref b17), .val (.int (1 : Int32))] [(.int (x2 + ((x3 >>> ((5 : Int32) &&& 31)) &&& (1 : Int32)))), (.long z57), (.int (x1 >>> ((3 : Int32) &&& 31))), (.ref b1), (.ref b17)])
    refine own_callS (W := 0) X57 hx hZ (y := (⟨"com/example/hedgewalk/hedgewalk/eval/GoalQueueHasOpenPinLaw", "step", "(Lcom/example/hedgewalk/hedgewalk/eval/GoalQueue;Lcom/example/hedgewalk/hedgewalk/eval/Agenda;IJI)V"⟩ : MethodName)) hown (own_w hw 81 rfl) (own_w hw 82 rfl) (own_w hw 78 rfl) (own_w hw 83 rfl) (by decide) (by rw [hml]; rfl) (argsL := [(.ref b17), (.ref b1), (.int (x1 >>> ((3 : Int32) &&& 31))), (.long z57), (.int (x2 + ((x3 >>> ((5 : Int32) &&& 31)) &&& (1 : Int32))))]) pd_4 rfl (rm11 l Z a0 hw [] b17 b1 (x1 >>> ((3 : Int32) &&& 31)) z57 (x2 + ((x3 >>> ((5 : Int32) &&& 31)) &&& (1 : Int32))) aH aF bk bh bg ([b5, b8, b12] : List Addr) O53 ([b5] : List Addr) ([b8, b12] : List Addr) s53 f53 T53.heap n0 sz54_ HW54_) (by decide) (by decide) (Nat.le_of_eq rfl) (by decide) (by decide) (rest := []) e57 rfl (hb hby at_292) ?_
    intro v58 T58 L58 X58 hQ58
    obtain ⟨O58, s58, f58, rfl, N58q, HX58⟩ := hQ58
    have N58 := Fr.app N57 N58q
    have HW59_ : own_W Z T58.heap n0 aH aF b17 bk bh bg b1 ([b5, b8, b12] : List Addr) O58 ([b5] : List Addr) ([b8, b12] : List Addr) s58 f58 := HX58
    have Eq59 := HW59_.exa
    have sz59_ := HW59_.sz
    show own_Go p e below _ T58 (mkF m 295 #[.val (.int x1), .val (.long y1), .second, .val (.long y2), .second, .val (.long y3), .second, .val (.int x2), .val (.int x3), .val (.int (1 : Int32)), .val (.long ((y1 &&& (7 : Int64)) - (4 : Int64))), .second, .val (.long (((y1 &&& (7 : Int64)) - (4 : Int64)) + ((y1 >>> ((3 : Int32).toInt64 &&& 63)) &&& (3 : Int64)))), .second, .val (.long ((((y1 &&& (7 : Int64)) - (4 : Int64)) + ((y1 >>> ((3 : Int32).toInt64 &&& 63)) &&& (3 : Int64))) + ((y1 >>> ((5 : Int32).toInt64 &&& 63)) &&& (3 : Int64)))), .second, .val (.int (x2 + (x3 &&& (1 : Int32)))), .val (.int (x2 + ((x3 >>> ((1 : Int32) &&& 31)) &&& (1 : Int32)))), .val (.int (x2 + ((x3 >>> ((2 : Int32) &&& 31)) &&& (1 : Int32)))), .val (.ref b1), .val (.ref b5), .val (.ref b8), .val (.ref b12), .val (.ref b17), .val (.int (1 : Int32))] [])
    refine own_by (fun t_ k_ => XS.iload X58.here hx rfl (hb hby at_295) rfl k_) ?_
    show own_Go p e below _ T58 (mkF m 297 #[.val (.int x1), .val (.long y1), .second, .val (.long y2), .second, .val (.long y3), .second, .val (.int x2), .val (.int x3), .val (.int (1 : Int32)), .val (.long ((y1 &&& (7 : Int64)) - (4 : Int64))), .second, .val (.long (((y1 &&& (7 : Int64)) - (4 : Int64)) + ((y1 >>> ((3 : Int32).toInt64 &&& 63)) &&& (3 : Int64)))), .second, .val (.long ((((y1 &&& (7 : Int64)) - (4 : Int64)) + ((y1 >>> ((3 : Int32).toInt64 &&& 63)) &&& (3 : Int64))) + ((y1 >>> ((5 : Int32).toInt64 &&& 63)) &&& (3 : Int64)))), .second, .val (.int (x2 + (x3 &&& (1 : Int32)))), .val (.int (x2 + ((x3 >>> ((1 : Int32) &&& 31)) &&& (1 : Int32)))), .val (.int (x2 + ((x3 >>> ((2 : Int32) &&& 31)) &&& (1 : Int32)))), .val (.ref b1), .val (.ref b5), .val (.ref b8), .val (.ref b12), .val (.ref b17), .val (.int (1 : Int32))] [(.int (1 : Int32))])
    refine own_if X58 hx 323 (hb hby at_297) (by decide) (by decide) (fun hc => absurd (show ¬ (1 : Int32) = (0 : Int32) from by decide) (by first | exact hc | exact not_not_intro hc)) (fun _ => ?_)
    show own_Go p e below _ T58 (mkF m 300 #[.val (.int x1), .val (.long y1), .second, .val (.long y2), .second, .val (.long y3), .second, .val (.int x2), .val (.int x3), .val (.int (1 : Int32)), .val (.long ((y1 &&& (7 : Int64)) - (4 : Int64))), .second, .val (.long (((y1 &&& (7 : Int64)) - (4 : Int64)) + ((y1 >>> ((3 : Int32).toInt64 &&& 63)) &&& (3 : Int64)))), .second, .val (.long ((((y1 &&& (7 : Int64)) - (4 : Int64)) + ((y1 >>> ((3 : Int32).toInt64 &&& 63)) &&& (3 : Int64))) + ((y1 >>> ((5 : Int32).toInt64 &&& 63)) &&& (3 : Int64)))), .second, .val (.int (x2 + (x3 &&& (1 : Int32)))), .val (.int (x2 + ((x3 >>> ((1 : Int32) &&& 31)) &&& (1 : Int32)))), .val (.int (x2 + ((x3 >>> ((2 : Int32) &&& 31)) &&& (1 : Int32)))), .val (.ref b1), .val (.ref b5), .val (.ref b8), .val (.ref b12), .val (.ref b17), .val (.int (1 : Int32))] [])
    refine own_by (fun t_ k_ => XS.aload X58.here hx rfl (hb hby at_300) rfl rfl k_) ?_
    show own_Go p e below _ T58 (mkF m 302 #[.val (.int x1), .val (.long y1), .second, .val (.long y2), .second, .val (.long y3), .second, .val (.int x2), .val (.int x3), .val (.int (1 : Int32)), .val (.long ((y1 &&& (7 : Int64)) - (4 : Int64))), .second, .val (.long (((y1 &&& (7 : Int64)) - (4 : Int64)) + ((y1 >>> ((3 : Int32).toInt64 &&& 63)) &&& (3 : Int64)))), .second, .val (.long ((((y1 &&& (7 : Int64)) - (4 : Int64)) + ((y1 >>> ((3 : Int32).toInt64 &&& 63)) &&& (3 : Int64))) + ((y1 >>> ((5 : Int32).toInt64 &&& 63)) &&& (3 : Int64)))), .second, .val (.int (x2 + (x3 &&& (1 : Int32)))), .val (.int (x2 + ((x3 >>> ((1 : Int32) &&& 31)) &&& (1 : Int32)))), .val (.int (x2 + ((x3 >>> ((2 : Int32) &&& 31)) &&& (1 : Int32)))), .val (.ref b1), .val (.ref b5), .val (.ref b8), .val (.ref b12), .val (.ref b17), .val (.int (1 : Int32))] [(.ref b17)])
    refine own_callV (W := 0) X58 hx hZ (y := (⟨"com/example/hedgewalk/hedgewalk/eval/GoalQueue", "hasOpen", "()Z"⟩ : MethodName)) (z := (⟨"com/example/hedgewalk/hedgewalk/eval/GoalQueue", "hasOpen", "()Z"⟩ : MethodName)) hown (own_w hw 67 rfl) (own_w hw 68 rfl) (notFace_of_selects (args := #[]) (mvT hZ (own_w hw 70 rfl))) (own_w hw 70 rfl) (own_w hw 69 rfl) (own_w hw 52 rfl) (own_w hw 71 rfl) (by decide) (by rw [hml]; rfl) (argsL := []) pd_2 rfl (a := b17) rfl Eq59 (rm9 l Z a0 hw [] b17 aH aF bk bh bg b1 ([b5, b8, b12] : List Addr) O58 ([b5] : List Addr) ([b8, b12] : List Addr) s58 f58 T58.heap n0 sz59_ HW59_) (by decide) (by decide) (Nat.le_of_eq rfl) (by decide) (by decide) (rest := []) rfl (hb hby at_302) ?_
    intro v60 T60 L60 X60 hQ60
    obtain ⟨rfl, N60q, e60⟩ := hQ60
    have N60 := Fr.app N58 N60q
    show own_Go p e below _ T60 (mkF m 305 #[.val (.int x1), .val (.long y1), .second, .val (.long y2), .second, .val (.long y3), .second, .val (.int x2), .val (.int x3), .val (.int (1 : Int32)), .val (.long ((y1 &&& (7 : Int64)) - (4 : Int64))), .second, .val (.long (((y1 &&& (7 : Int64)) - (4 : Int64)) + ((y1 >>> ((3 : Int32).toInt64 &&& 63)) &&& (3 : Int64)))), .second, .val (.long ((((y1 &&& (7 : Int64)) - (4 : Int64)) + ((y1 >>> ((3 : Int32).toInt64 &&& 63)) &&& (3 : Int64))) + ((y1 >>> ((5 : Int32).toInt64 &&& 63)) &&& (3 : Int64)))), .second, .val (.int (x2 + (x3 &&& (1 : Int32)))), .val (.int (x2 + ((x3 >>> ((1 : Int32) &&& 31)) &&& (1 : Int32)))), .val (.int (x2 + ((x3 >>> ((2 : Int32) &&& 31)) &&& (1 : Int32)))), .val (.ref b1), .val (.ref b5), .val (.ref b8), .val (.ref b12), .val (.ref b17), .val (.int (1 : Int32))] [(.int (own_h O58))])
    refine own_by (fun t_ k_ => XS.iload X60.here hx rfl (hb hby at_305) rfl k_) ?_
    show own_Go p e below _ T60 (mkF m 307 #[.val (.int x1), .val (.long y1), .second, .val (.long y2), .second, .val (.long y3), .second, .val (.int x2), .val (.int x3), .val (.int (1 : Int32)), .val (.long ((y1 &&& (7 : Int64)) - (4 : Int64))), .second, .val (.long (((y1 &&& (7 : Int64)) - (4 : Int64)) + ((y1 >>> ((3 : Int32).toInt64 &&& 63)) &&& (3 : Int64)))), .second, .val (.long ((((y1 &&& (7 : Int64)) - (4 : Int64)) + ((y1 >>> ((3 : Int32).toInt64 &&& 63)) &&& (3 : Int64))) + ((y1 >>> ((5 : Int32).toInt64 &&& 63)) &&& (3 : Int64)))), .second, .val (.int (x2 + (x3 &&& (1 : Int32)))), .val (.int (x2 + ((x3 >>> ((1 : Int32) &&& 31)) &&& (1 : Int32)))), .val (.int (x2 + ((x3 >>> ((2 : Int32) &&& 31)) &&& (1 : Int32)))), .val (.ref b1), .val (.ref b5), .val (.ref b8), .val (.ref b12), .val (.ref b17), .val (.int (1 : Int32))] [(.int (1 : Int32)), (.int (own_h O58))])
    refine own_by (fun t_ k_ => XS.aload X60.here hx rfl (hb hby at_307) rfl rfl k_) ?_
    show own_Go p e below _ T60 (mkF m 309 #[.val (.int x1), .val (.long y1), .second, .val (.long y2), .second, .val (.long y3), .second, .val (.int x2), .val (.int x3), .val (.int (1 : Int32)), .val (.long ((y1 &&& (7 : Int64)) - (4 : Int64))), .second, .val (.long (((y1 &&& (7 : Int64)) - (4 : Int64)) + ((y1 >>> ((3 : Int32).toInt64 &&& 63)) &&& (3 : Int64)))), .second, .val (.long ((((y1 &&& (7 : Int64)) - (4 : Int64)) + ((y1 >>> ((3 : Int32).toInt64 &&& 63)) &&& (3 : Int64))) + ((y1 >>> ((5 : Int32).toInt64 &&& 63)) &&& (3 : Int64)))), .second, .val (.int (x2 + (x3 &&& (1 : Int32)))), .val (.int (x2 + ((x3 >>> ((1 : Int32) &&& 31)) &&& (1 : Int32)))), .val (.int (x2 + ((x3 >>> ((2 : Int32) &&& 31)) &&& (1 : Int32)))), .val (.ref b1), .val (.ref b5), .val (.ref b8), .val (.ref b12), .val (.ref b17), .val (.int (1 : Int32))] [(.ref b5), (.int (1 : Int32)), (.int (own_h O58))])
    refine own_by (fun t_ k_ => XS.aload X60.here hx rfl (hb hby at_309) rfl rfl k_) ?_
    show own_Go p e below _ T60 (mkF m 311 #[.val (.int x1), .val (.long y1), .second, .val (.long y2), .second, .val (.long y3), .second, .val (.int x2), .val (.int x3), .val (.int (1 : Int32)), .val (.long ((y1 &&& (7 : Int64)) - (4 : Int64))), .second, .val (.long (((y1 &&& (7 : Int64)) - (4 : Int64)) + ((y1 >>> ((3 : Int32).toInt64 &&& 63)) &&& (3 : Int64)))), .second, .val (.long ((((y1 &&& (7 : Int64)) - (4 : Int64)) + ((y1 >>> ((3 : Int32).toInt64 &&& 63)) &&& (3 : Int64))) + ((y1 >>> ((5 : Int32).toInt64 &&& 63)) &&& (3 : Int64)))), .second, .val (.int (x2 + (x3 &&& (1 : Int32)))), .val (.int (x2 + ((x3 >>> ((1 : Int32) &&& 31)) &&& (1 : Int32)))), .val (.int (x2 + ((x3 >>> ((2 : Int32) &&& 31)) &&& (1 : Int32)))), .val (.ref b1), .val (.ref b5), .val (.ref b8), .val (.ref b12), .val (.ref b17), .val (.int (1 : Int32))] [(.ref b8), (.ref b5), (.int (1 : Int32)), (.int (own_h O58))])
    refine own_by (fun t_ k_ => XS.aload X60.here hx rfl (hb hby at_311) rfl rfl k_) ?_
    show own_Go p e below _ T60 (mkF m 313 #[.val (.int x1), .val (.long y1), .second, .val (.long y2), .second, .val (.long y3), .second, .val (.int x2), .val (.int x3), .val (.int (1 : Int32)), .val (.long ((y1 &&& (7 : Int64)) - (4 : Int64))), .second, .val (.long (((y1 &&& (7 : Int64)) - (4 : Int64)) + ((y1 >>> ((3 : Int32).toInt64 &&& 63)) &&& (3 : Int64)))), .second, .val (.long ((((y1 &&& (7 : Int64)) - (4 : Int64)) + ((y1 >>> ((3 : Int32).toInt64 &&& 63)) &&& (3 : Int64))) + ((y1 >>> ((5 : Int32).toInt64 &&& 63)) &&& (3 : Int64)))), .second, .val (.int (x2 + (x3 &&& (1 : Int32)))), .val (.int (x2 + ((x3 >>> ((1 : Int32) &&& 31)) &&& (1 : Int32)))), .val (.int (x2 + ((x3 >>> ((2 : Int32) &&& 31)) &&& (1 : Int32)))), .val (.ref b1), .val (.ref b5), .val (.ref b8), .val (.ref b12), .val (.ref b17), .val (.int (1 : Int32))] [(.ref b12), (.ref b8), (.ref b5), (.int (1 : Int32)), (.int (own_h O58))])
    refine own_callS (W := 1) X60 hx hZ (y := (⟨"com/example/hedgewalk/hedgewalk/eval/GoalQueueHasOpenPinLaw", "anyOpen", "(ILcom/example/hedgewalk/hedgewalk/eval/Verdict$Told;Lcom/example/hedgewalk/hedgewalk/eval/Verdict$Told;Lcom/example/hedgewalk/hedgewalk/eval/Verdict$Told;)Z"⟩ : MethodName)) hown (own_w hw 89 rfl) (own_w hw 90 rfl) (own_w hw 78 rfl) (own_w hw 91 rfl) (by decide) (by rw [hml]; rfl) (argsL := [(.int (1 : Int32)), (.ref b5), (.ref b8), (.ref b12)]) pd_6 rfl (rm13 l Z a0 hw [] (1 : Int32) b5 b8 b12 b17 aH aF bk bh bg b1 ([b5, b8, b12] : List Addr) O58 ([b5] : List Addr) ([b8, b12] : List Addr) s58 f58 T58.heap n0 sz59_ HW59_ (Or.inr (Or.inl ⟨rfl, rfl⟩))) (by decide) (by decide) (Nat.le_of_eq rfl) (by decide) (by decide) (rest := [(.int (own_h O58))]) e60 rfl (hb hby at_313) ?_
    intro v61 T61 L61 X61 hQ61
    obtain ⟨rfl, N61q, e61⟩ := hQ61
    have N61 := Fr.app N60 N61q
    show own_Go p e below _ T61 (mkF m 316 #[.val (.int x1), .val (.long y1), .second, .val (.long y2), .second, .val (.long y3), .second, .val (.int x2), .val (.int x3), .val (.int (1 : Int32)), .val (.long ((y1 &&& (7 : Int64)) - (4 : Int64))), .second, .val (.long (((y1 &&& (7 : Int64)) - (4 : Int64)) + ((y1 >>> ((3 : Int32).toInt64 &&& 63)) &&& (3 : Int64)))), .second, .val (.long ((((y1 &&& (7 : Int64)) - (4 : Int64)) + ((y1 >>> ((3 : Int32).toInt64 &&& 63)) &&& (3 : Int64))) + ((y1 >>> ((5 : Int32).toInt64 &&& 63)) &&& (3 : Int64)))), .second, .val (.int (x2 + (x3 &&& (1 : Int32)))), .val (.int (x2 + ((x3 >>> ((1 : Int32) &&& 31)) &&& (1 : Int32)))), .val (.int (x2 + ((x3 >>> ((2 : Int32) &&& 31)) &&& (1 : Int32)))), .val (.ref b1), .val (.ref b5), .val (.ref b8), .val (.ref b12), .val (.ref b17), .val (.int (1 : Int32))] [(.int (own_h O58)), (.int (own_h O58))])
    refine own_icmp X61 hx 323 (hb hby at_316) (by decide) (by decide) (fun hc => absurd (show (own_h O58) = (own_h O58) from rfl) (by first | exact hc | exact not_not_intro hc)) (fun _ => ?_)
    show own_Go p e below _ T61 (mkF m 319 #[.val (.int x1), .val (.long y1), .second, .val (.long y2), .second, .val (.long y3), .second, .val (.int x2), .val (.int x3), .val (.int (1 : Int32)), .val (.long ((y1 &&& (7 : Int64)) - (4 : Int64))), .second, .val (.long (((y1 &&& (7 : Int64)) - (4 : Int64)) + ((y1 >>> ((3 : Int32).toInt64 &&& 63)) &&& (3 : Int64)))), .second, .val (.long ((((y1 &&& (7 : Int64)) - (4 : Int64)) + ((y1 >>> ((3 : Int32).toInt64 &&& 63)) &&& (3 : Int64))) + ((y1 >>> ((5 : Int32).toInt64 &&& 63)) &&& (3 : Int64)))), .second, .val (.int (x2 + (x3 &&& (1 : Int32)))), .val (.int (x2 + ((x3 >>> ((1 : Int32) &&& 31)) &&& (1 : Int32)))), .val (.int (x2 + ((x3 >>> ((2 : Int32) &&& 31)) &&& (1 : Int32)))), .val (.ref b1), .val (.ref b5), .val (.ref b8), .val (.ref b12), .val (.ref b17), .val (.int (1 : Int32))] [])
    refine own_by (fun t_ k_ => XS.iconst X61.here hx rfl (hb hby at_319) k_) ?_
    show own_Go p e below _ T61 (mkF m 320 #[.val (.int x1), .val (.long y1), .second, .val (.long y2), .second, .val (.long y3), .second, .val (.int x2), .val (.int x3), .val (.int (1 : Int32)), .val (.long ((y1 &&& (7 : Int64)) - (4 : Int64))), .second, .val (.long (((y1 &&& (7 : Int64)) - (4 : Int64)) + ((y1 >>> ((3 : Int32).toInt64 &&& 63)) &&& (3 : Int64)))), .second, .val (.long ((((y1 &&& (7 : Int64)) - (4 : Int64)) + ((y1 >>> ((3 : Int32).toInt64 &&& 63)) &&& (3 : Int64))) + ((y1 >>> ((5 : Int32).toInt64 &&& 63)) &&& (3 : Int64)))), .second, .val (.int (x2 + (x3 &&& (1 : Int32)))), .val (.int (x2 + ((x3 >>> ((1 : Int32) &&& 31)) &&& (1 : Int32)))), .val (.int (x2 + ((x3 >>> ((2 : Int32) &&& 31)) &&& (1 : Int32)))), .val (.ref b1), .val (.ref b5), .val (.ref b8), .val (.ref b12), .val (.ref b17), .val (.int (1 : Int32))] [(.int (1 : Int32))])
    refine own_by (fun t_ k_ => XS.goto X61.here hx rfl (pc0 := 320) (pc' := 324) rfl (hb hby at_320) (by decide) (by decide) k_) ?_
    show own_Go p e below _ T61 (mkF m 324 #[.val (.int x1), .val (.long y1), .second, .val (.long y2), .second, .val (.long y3), .second, .val (.int x2), .val (.int x3), .val (.int (1 : Int32)), .val (.long ((y1 &&& (7 : Int64)) - (4 : Int64))), .second, .val (.long (((y1 &&& (7 : Int64)) - (4 : Int64)) + ((y1 >>> ((3 : Int32).toInt64 &&& 63)) &&& (3 : Int64)))), .second, .val (.long ((((y1 &&& (7 : Int64)) - (4 : Int64)) + ((y1 >>> ((3 : Int32).toInt64 &&& 63)) &&& (3 : Int64))) + ((y1 >>> ((5 : Int32).toInt64 &&& 63)) &&& (3 : Int64)))), .second, .val (.int (x2 + (x3 &&& (1 : Int32)))), .val (.int (x2 + ((x3 >>> ((1 : Int32) &&& 31)) &&& (1 : Int32)))), .val (.int (x2 + ((x3 >>> ((2 : Int32) &&& 31)) &&& (1 : Int32)))), .val (.ref b1), .val (.ref b5), .val (.ref b8), .val (.ref b12), .val (.ref b17), .val (.int (1 : Int32))] [(.int (1 : Int32))])
    refine own_by (fun t_ k_ => XS.istore X61.here hx rfl (hb hby at_324) rfl (l' := #[.val (.int x1), .val (.long y1), .second, .val (.long y2), .second, .val (.long y3), .second, .val (.int x2), .val (.int x3), .val (.int (1 : Int32)), .val (.long ((y1 &&& (7 : Int64)) - (4 : Int64))), .second, .val (.long (((y1 &&& (7 : Int64)) - (4 : Int64)) + ((y1 >>> ((3 : Int32).toInt64 &&& 63)) &&& (3 : Int64)))), .second, .val (.long ((((y1 &&& (7 : Int64)) - (4 : Int64)) + ((y1 >>> ((3 : Int32).toInt64 &&& 63)) &&& (3 : Int64))) + ((y1 >>> ((5 : Int32).toInt64 &&& 63)) &&& (3 : Int64)))), .second, .val (.int (x2 + (x3 &&& (1 : Int32)))), .val (.int (x2 + ((x3 >>> ((1 : Int32) &&& 31)) &&& (1 : Int32)))), .val (.int (x2 + ((x3 >>> ((2 : Int32) &&& 31)) &&& (1 : Int32)))), .val (.ref b1), .val (.ref b5), .val (.ref b8), .val (.ref b12), .val (.ref b17), .val (.int (1 : Int32))]) rfl k_) ?_
    show own_Go p e below _ T61 (mkF m 326 #[.val (.int x1), .val (.long y1), .second, .val (.long y2), .second, .val (.long y3), .second, .val (.int x2), .val (.int x3), .val (.int (1 : Int32)), .val (.long ((y1 &&& (7 : Int64)) - (4 : Int64))), .second, .val (.long (((y1 &&& (7 : Int64)) - (4 : Int64)) + ((y1 >>> ((3 : Int32).toInt64 &&& 63)) &&& (3 : Int64)))), .second, .val (.long ((((y1 &&& (7 : Int64)) - (4 : Int64)) + ((y1 >>> ((3 : Int32).toInt64 &&& 63)) &&& (3 : Int64))) + ((y1 >>> ((5 : Int32).toInt64 &&& 63)) &&& (3 : Int64)))), .second, .val (.int (x2 + (x3 &&& (1 : Int32)))), .val (.int (x2 + ((x3 >>> ((1 : Int32) &&& 31)) &&& (1 : Int32)))), .val (.int (x2 + ((x3 >>> ((2 : Int32) &&& 31)) &&& (1 : Int32)))), .val (.ref b1), .val (.ref b5), .val (.ref b8), .val (.ref b12), .val (.ref b17), .val (.int (1 : Int32))] [])
    refine own_by (fun t_ k_ => XS.iload X61.here hx rfl (hb hby at_326) rfl k_) ?_
    show own_Go p e below _ T61 (mkF m 328 #[.val (.int x1), .val (.long y1), .second, .val (.long y2), .second, .val (.long y3), .second, .val (.int x2), .val (.int x3), .val (.int (1 : Int32)), .val (.long ((y1 &&& (7 : Int64)) - (4 : Int64))), .second, .val (.long (((y1 &&& (7 : Int64)) - (4 : Int64)) + ((y1 >>> ((3 : Int32).toInt64 &&& 63)) &&& (3 : Int64)))), .second, .val (.long ((((y1 &&& (7 : Int64)) - (4 : Int64)) + ((y1 >>> ((3 : Int32).toInt64 &&& 63)) &&& (3 : Int64))) + ((y1 >>> ((5 : Int32).toInt64 &&& 63)) &&& (3 : Int64)))), .second, .val (.int (x2 + (x3 &&& (1 : Int32)))), .val (.int (x2 + ((x3 >>> ((1 : Int32) &&& 31)) &&& (1 : Int32)))), .val (.int (x2 + ((x3 >>> ((2 : Int32) &&& 31)) &&& (1 : Int32)))), .val (.ref b1), .val (.ref b5), .val (.ref b8), .val (.ref b12), .val (.ref b17), .val (.int (1 : Int32))] [(.int (1 : Int32))])
    refine own_retZ X61 hx hlk Bd.returns (by decide) (hb hby at_328) e61 (by decide) (by decide) ?_
    exact ⟨rfl, N61⟩
  · show own_Go p e below _ T37 (mkF m 131 #[.val (.int x1), .val (.long y1), .second, .val (.long y2), .second, .val (.long y3), .second, .val (.int x2), .val (.int x3), .val (.int (2 : Int32)), .val (.long ((y1 &&& (7 : Int64)) - (4 : Int64))), .second, .val (.long (((y1 &&& (7 : Int64)) - (4 : Int64)) + ((y1 >>> ((3 : Int32).toInt64 &&& 63)) &&& (3 : Int64)))), .second, .val (.long ((((y1 &&& (7 : Int64)) - (4 : Int64)) + ((y1 >>> ((3 : Int32).toInt64 &&& 63)) &&& (3 : Int64))) + ((y1 >>> ((5 : Int32).toInt64 &&& 63)) &&& (3 : Int64)))), .second, .val (.int (x2 + (x3 &&& (1 : Int32)))), .val (.int (x2 + ((x3 >>> ((1 : Int32) &&& 31)) &&& (1 : Int32)))), .val (.int (x2 + ((x3 >>> ((2 : Int32) &&& 31)) &&& (1 : Int32)))), .val (.ref b1), .val (.ref b5), .val (.ref b8), .val (.ref b12), .val (.ref b17), .val (.int (1 : Int32))] [])
    refine own_by (fun t_ k_ => XS.iload X37.here hx rfl (hb hby at_131) rfl k_) ?_
    show own_Go p e below _ T37 (mkF m 133 #[.val (.int x1), .val (.long y1), .second, .val (.long y2), .second, .val (.long y3), .second, .val (.int x2), .val (.int x3), .val (.int (2 : Int32)), .val (.long ((y1 &&& (7 : Int64)) - (4 : Int64))), .second, .val (.long (((y1 &&& (7 : Int64)) - (4 : Int64)) + ((y1 >>> ((3 : Int32).toInt64 &&& 63)) &&& (3 : Int64)))), .second, .val (.long ((((y1 &&& (7 : Int64)) - (4 : Int64)) + ((y1 >>> ((3 : Int32).toInt64 &&& 63)) &&& (3 : Int64))) + ((y1 >>> ((5 : Int32).toInt64 &&& 63)) &&& (3 : Int64)))), .second, .val (.int (x2 + (x3 &&& (1 : Int32)))), .val (.int (x2 + ((x3 >>> ((1 : Int32) &&& 31)) &&& (1 : Int32)))), .val (.int (x2 + ((x3 >>> ((2 : Int32) &&& 31)) &&& (1 : Int32)))), .val (.ref b1), .val (.ref b5), .val (.ref b8), .val (.ref b12), .val (.ref b17), .val (.int (1 : Int32))] [(.int (2 : Int32))])
    refine own_if X37 hx 147 (hb hby at_133) (by decide) (by decide) (fun hc => absurd (show (0 : Int32) < (2 : Int32) from by decide) (by first | exact hc | exact not_not_intro hc)) (fun _ => ?_)
    show own_Go p e below _ T37 (mkF m 136 #[.val (.int x1), .val (.long y1), .second, .val (.long y2), .second, .val (.long y3), .second, .val (.int x2), .val (.int x3), .val (.int (2 : Int32)), .val (.long ((y1 &&& (7 : Int64)) - (4 : Int64))), .second, .val (.long (((y1 &&& (7 : Int64)) - (4 : Int64)) + ((y1 >>> ((3 : Int32).toInt64 &&& 63)) &&& (3 : Int64)))), .second, .val (.long ((((y1 &&& (7 : Int64)) - (4 : Int64)) + ((y1 >>> ((3 : Int32).toInt64 &&& 63)) &&& (3 : Int64))) + ((y1 >>> ((5 : Int32).toInt64 &&& 63)) &&& (3 : Int64)))), .second, .val (.int (x2 + (x3 &&& (1 : Int32)))), .val (.int (x2 + ((x3 >>> ((1 : Int32) &&& 31)) &&& (1 : Int32)))), .val (.int (x2 + ((x3 >>> ((2 : Int32) &&& 31)) &&& (1 : Int32)))), .val (.ref b1), .val (.ref b5), .val (.ref b8), .val (.ref b12), .val (.ref b17), .val (.int (1 : Int32))] [])
    refine own_by (fun t_ k_ => XS.aload X37.here hx rfl (hb hby at_136) rfl rfl k_) ?_
    show own_Go p e below _ T37 (mkF m 138 #[.val (.int x1), .val (.long y1), .second, .val (.long y2), .second, .val (.long y3), .second, .val (.int x2), .val (.int x3), .val (.int (2 : Int32)), .val (.long ((y1 &&& (7 : Int64)) - (4 : Int64))), .second, .val (.long (((y1 &&& (7 : Int64)) - (4 : Int64)) + ((y1 >>> ((3 : Int32).toInt64 &&& 63)) &&& (3 : Int64)))), .second, .val (.long ((((y1 &&& (7 : Int64)) - (4 : Int64)) + ((y1 >>> ((3 : Int32).toInt64 &&& 63)) &&& (3 : Int64))) + ((y1 >>> ((5 : Int32).toInt64 &&& 63)) &&& (3 : Int64)))), .second, .val (.int (x2 + (x3 &&& (1 : Int32)))), .val (.int (x2 + ((x3 >>> ((1 : Int32) &&& 31)) &&& (1 : Int32)))), .val (.int (x2 + ((x3 >>> ((2 : Int32) &&& 31)) &&& (1 : Int32)))), .val (.ref b1), .val (.ref b5), .val (.ref b8), .val (.ref b12), .val (.ref b17), .val (.int (1 : Int32))] [(.ref b17)])
    refine own_by (fun t_ k_ => XT.lload X37.here hx rfl (hb hby at_138) rfl k_) ?_
    show own_Go p e below _ T37 (mkF m 140 #[.val (.int x1), .val (.long y1), .second, .val (.long y2), .second, .val (.long y3), .second, .val (.int x2), .val (.int x3), .val (.int (2 : Int32)), .val (.long ((y1 &&& (7 : Int64)) - (4 : Int64))), .second, .val (.long (((y1 &&& (7 : Int64)) - (4 : Int64)) + ((y1 >>> ((3 : Int32).toInt64 &&& 63)) &&& (3 : Int64)))), .second, .val (.long ((((y1 &&& (7 : Int64)) - (4 : Int64)) + ((y1 >>> ((3 : Int32).toInt64 &&& 63)) &&& (3 : Int64))) + ((y1 >>> ((5 : Int32).toInt64 &&& 63)) &&& (3 : Int64)))), .second, .val (.int (x2 + (x3 &&& (1 : Int32)))), .val (.int (x2 + ((x3 >>> ((1 : Int32) &&& 31)) &&& (1 : Int32)))), .val (.int (x2 + ((x3 >>> ((2 : Int32) &&& 31)) &&& (1 : Int32)))), .val (.ref b1), .val (.ref b5), .val (.ref b8), .val (.ref b12), .val (.ref b17), .val (.int (1 : Int32))] [(.long ((y1 &&& (7 : Int64)) - (4 : Int64))), (.ref b17)])
    refine own_by (fun t_ k_ => XS.iload X37.here hx rfl (hb hby at_140) rfl k_) ?_
    show own_Go p e below _ T37 (mkF m 142 #[.val (.int x1), .val (.long y1), .second, .val (.long y2), .second, .val (.long y3), .second, .val (.int x2), .val (.int x3), .val (.int (2 : Int32)), .val (.long ((y1 &&& (7 : Int64)) - (4 : Int64))), .second, .val (.long (((y1 &&& (7 : Int64)) - (4 : Int64)) + ((y1 >>> ((3 : Int32).toInt64 &&& 63)) &&& (3 : Int64)))), .second, .val (.long ((((y1 &&& (7 : Int64)) - (4 : Int64)) + ((y1 >>> ((3 : Int32).toInt64 &&& 63)) &&& (3 : Int64))) + ((y1 >>> ((5 : Int32).toInt64 &&& 63)) &&& (3 : Int64)))), .second, .val (.int (x2 + (x3 &&& (1 : Int32)))), .val (.int (x2 + ((x3 >>> ((1 : Int32) &&& 31)) &&& (1 : Int32)))), .val (.int (x2 + ((x3 >>> ((2 : Int32) &&& 31)) &&& (1 : Int32)))), .val (.ref b1), .val (.ref b5), .val (.ref b8), .val (.ref b12), .val (.ref b17), .val (.int (1 : Int32))] [(.int (x2 + (x3 &&& (1 : Int32)))), (.long ((y1 &&& (7 : Int64)) - (4 : Int64))), (.ref b17)])
    refine own_by (fun t_ k_ => XS.aload X37.here hx rfl (hb hby at_142) rfl rfl k_) ?_
    show own_Go p e below _ T37 (mkF m 144 #[.val (.int x1), .val (.long y1), .second, .val (.long y2), .second, .val (.long y3), .second, .val (.int x2), .val (.int x3), .val (.int (2 : Int32)), .val (.long ((y1 &&& (7 : Int64)) - (4 : Int64))), .second, .val (.long (((y1 &&& (7 : Int64)) - (4 : Int64)) + ((y1 >>> ((3 : Int32).toInt64 &&& 63)) &&& (3 : Int64)))), .second, .val (.long ((((y1 &&& (7 : Int64)) - (4 : Int64)) + ((y1 >>> ((3 : Int32).toInt64 &&& 63)) &&& (3 : Int64))) + ((y1 >>> ((5 : Int32).toInt64 &&& 63)) &&& (3 : Int64)))), .second, .val (.int (x2 + (x3 &&& (1 : Int32)))), .val (.int (x2 + ((x3 >>> ((1 : Int32) &&& 31)) &&& (1 : Int32)))), .val (.int (x2 + ((x3 >>> ((2 : Int32) &&& 31)) &&& (1 : Int32)))), .val (.ref b1), .val (.ref b5), .val (.ref b8), .val (.ref b12), .val (.ref b17), .val (.int (1 : Int32))] [(.ref b5), (.int (x2 + (x3 &&& (1 : Int32)))), (.long ((y1 &&& (7 : Int64)) - (4 : Int64))), (.ref b17)])
    refine own_callV (W := 0) X37 hx hZ (y := (⟨"com/example/hedgewalk/hedgewalk/eval/GoalQueue", "add", "(JILcom/example/hedgewalk/hedgewalk/eval/Verdict$Listener;)V"⟩ : MethodName)) (z := (⟨"com/example/hedgewalk/hedgewalk/eval/GoalQueue", "add", "(JILcom/example/hedgewalk/hedgewalk/eval/Verdict$Listener;)V"⟩ : MethodName)) hown (own_w hw 101 rfl) (own_w hw 102 rfl) (notFace_of_selects (args := #[]) (mvT hZ (own_w hw 104 rfl))) (own_w hw 104 rfl) (own_w hw 103 rfl) (own_w hw 52 rfl) (own_w hw 105 rfl) (by decide) (by rw [hml]; rfl) (argsL := [(.long ((y1 &&& (7 : Int64)) - (4 : Int64))), (.int (x2 + (x3 &&& (1 : Int32)))), (.ref b5)]) pd_9 rfl (a := b17) e37 Eq36 (rm16 l Z a0 hw [] b17 ((y1 &&& (7 : Int64)) - (4 : Int64)) (x2 + (x3 &&& (1 : Int32))) b5 aH aF bk bh bg b1 ([b5, b8, b12] : List Addr) [] [] ([b5, b8, b12] : List Addr) 0 0 ([b8, b12] : List Addr) T26.heap n0 sz36_ HW36_ (by decide) rfl (by simp) (ninS (Nat.ne_of_lt lt_b5_b8) (ninS (Nat.ne_of_lt lt_b5_b12) nin0)) nin0) (by decide) (by decide) (Nat.le_of_eq rfl) (by decide) (by decide) (rest := []) rfl (hb hby at_144) ?_
    intro v62 T62 L62 X62 hQ62
    obtain ⟨rfl, N62q, HX62⟩ := hQ62
    have N62 := Fr.app N37 N62q
    have HW63_ : own_W Z T62.heap n0 aH aF b17 bk bh bg b1 ([b5, b8, b12] : List Addr) ([b5] : List Addr) ([b5] : List Addr) ([b8, b12] : List Addr) 1 0 := HX62
    have Eq63 := HW63_.exa
    have sz63_ := HW63_.sz
    show own_Go p e below _ T62 (mkF m 147 #[.val (.int x1), .val (.long y1), .second, .val (.long y2), .second, .val (.long y3), .second, .val (.int x2), .val (.int x3), .val (.int (2 : Int32)), .val (.long ((y1 &&& (7 : Int64)) - (4 : Int64))), .second, .val (.long (((y1 &&& (7 : Int64)) - (4 : Int64)) + ((y1 >>> ((3 : Int32).toInt64 &&& 63)) &&& (3 : Int64)))), .second, .val (.long ((((y1 &&& (7 : Int64)) - (4 : Int64)) + ((y1 >>> ((3 : Int32).toInt64 &&& 63)) &&& (3 : Int64))) + ((y1 >>> ((5 : Int32).toInt64 &&& 63)) &&& (3 : Int64)))), .second, .val (.int (x2 + (x3 &&& (1 : Int32)))), .val (.int (x2 + ((x3 >>> ((1 : Int32) &&& 31)) &&& (1 : Int32)))), .val (.int (x2 + ((x3 >>> ((2 : Int32) &&& 31)) &&& (1 : Int32)))), .val (.ref b1), .val (.ref b5), .val (.ref b8), .val (.ref b12), .val (.ref b17), .val (.int (1 : Int32))] [])
    refine own_by (fun t_ k_ => XS.iload X62.here hx rfl (hb hby at_147) rfl k_) ?_
    show own_Go p e below _ T62 (mkF m 149 #[.val (.int x1), .val (.long y1), .second, .val (.long y2), .second, .val (.long y3), .second, .val (.int x2), .val (.int x3), .val (.int (2 : Int32)), .val (.long ((y1 &&& (7 : Int64)) - (4 : Int64))), .second, .val (.long (((y1 &&& (7 : Int64)) - (4 : Int64)) + ((y1 >>> ((3 : Int32).toInt64 &&& 63)) &&& (3 : Int64)))), .second, .val (.long ((((y1 &&& (7 : Int64)) - (4 : Int64)) + ((y1 >>> ((3 : Int32).toInt64 &&& 63)) &&& (3 : Int64))) + ((y1 >>> ((5 : Int32).toInt64 &&& 63)) &&& (3 : Int64)))), .second, .val (.int (x2 + (x3 &&& (1 : Int32)))), .val (.int (x2 + ((x3 >>> ((1 : Int32) &&& 31)) &&& (1 : Int32)))), .val (.int (x2 + ((x3 >>> ((2 : Int32) &&& 31)) &&& (1 : Int32)))), .val (.ref b1), .val (.ref b5), .val (.ref b8), .val (.ref b12), .val (.ref b17), .val (.int (1 : Int32))] [(.int (2 : Int32))])
    refine own_by (fun t_ k_ => XS.iconst X62.here hx rfl (hb hby at_149) k_) ?_
    show own_Go p e below _ T62 (mkF m 150 #[.val (.int x1), .val (.long y1), .second, .val (.long y2), .second, .val (.long y3), .second, .val (.int x2), .val (.int x3), .val (.int (2 : Int32)), .val (.long ((y1 &&& (7 : Int64)) - (4 : Int64))), .second, .val (.long (((y1 &&& (7 : Int64)) - (4 : Int64)) + ((y1 >>> ((3 : Int32).toInt64 &&& 63)) &&& (3 : Int64)))), .second, .val (.long ((((y1 &&& (7 : Int64)) - (4 : Int64)) + ((y1 >>> ((3 : Int32).toInt64 &&& 63)) &&& (3 : Int64))) + ((y1 >>> ((5 : Int32).toInt64 &&& 63)) &&& (3 : Int64)))), .second, .val (.int (x2 + (x3 &&& (1 : Int32)))), .val (.int (x2 + ((x3 >>> ((1 : Int32) &&& 31)) &&& (1 : Int32)))), .val (.int (x2 + ((x3 >>> ((2 : Int32) &&& 31)) &&& (1 : Int32)))), .val (.ref b1), .val (.ref b5), .val (.ref b8), .val (.ref b12), .val (.ref b17), .val (.int (1 : Int32))] [(.int (1 : Int32)), (.int (2 : Int32))])
    refine own_icmp X62 hx 164 (hb hby at_150) (by decide) (by decide) (fun hc => absurd (show (1 : Int32) < (2 : Int32) from by decide) (by first | exact hc | exact not_not_intro hc)) (fun _ => ?_)
    show own_Go p e below _ T62 (mkF m 153 #[.val (.int x1), .val (.long y1), .second, .val (.long y2), .second, .val (.long y3), .second, .val (.int x2), .val (.int x3), .val (.int (2 : Int32)), .val (.long ((y1 &&& (7 : Int64)) - (4 : Int64))), .second, .val (.long (((y1 &&& (7 : Int64)) - (4 : Int64)) + ((y1 >>> ((3 : Int32).toInt64 &&& 63)) &&& (3 : Int64)))), .second, .val (.long ((((y1 &&& (7 : Int64)) - (4 : Int64)) + ((y1 >>> ((3 : Int32).toInt64 &&& 63)) &&& (3 : Int64))) + ((y1 >>> ((5 : Int32).toInt64 &&& 63)) &&& (3 : Int64)))), .second, .val (.int (x2 + (x3 &&& (1 : Int32)))), .val (.int (x2 + ((x3 >>> ((1 : Int32) &&& 31)) &&& (1 : Int32)))), .val (.int (x2 + ((x3 >>> ((2 : Int32) &&& 31)) &&& (1 : Int32)))), .val (.ref b1), .val (.ref b5), .val (.ref b8), .val (.ref b12), .val (.ref b17), .val (.int (1 : Int32))] [])
    refine own_by (fun t_ k_ => XS.aload X62.here hx rfl (hb hby at_153) rfl rfl k_) ?_
    show own_Go p e below _ T62 (mkF m 155 #[.val (.int x1), .val (.long y1), .second, .val (.long y2), .second, .val (.long y3), .second, .val (.int x2), .val (.int x3), .val (.int (2 : Int32)), .val (.long ((y1 &&& (7 : Int64)) - (4 : Int64))), .second, .val (.long (((y1 &&& (7 : Int64)) - (4 : Int64)) + ((y1 >>> ((3 : Int32).toInt64 &&& 63)) &&& (3 : Int64)))), .second, .val (.long ((((y1 &&& (7 : Int64)) - (4 : Int64)) + ((y1 >>> ((3 : Int32).toInt64 &&& 63)) &&& (3 : Int64))) + ((y1 >>> ((5 : Int32).toInt64 &&& 63)) &&& (3 : Int64)))), .second, .val (.int (x2 + (x3 &&& (1 : Int32)))), .val (.int (x2 + ((x3 >>> ((1 : Int32) &&& 31)) &&& (1 : Int32)))), .val (.int (x2 + ((x3 >>> ((2 : Int32) &&& 31)) &&& (1 : Int32)))), .val (.ref b1), .val (.ref b5), .val (.ref b8), .val (.ref b12), .val (.ref b17), .val (.int (1 : Int32))] [(.ref b17)])
    refine own_by (fun t_ k_ => XT.lload X62.here hx rfl (hb hby at_155) rfl k_) ?_
    show own_Go p e below _ T62 (mkF m 157 #[.val (.int x1), .val (.long y1), .second, .val (.long y2), .second, .val (.long y3), .second, .val (.int x2), .val (.int x3), .val (.int (2 : Int32)), .val (.long ((y1 &&& (7 : Int64)) - (4 : Int64))), .second, .val (.long (((y1 &&& (7 : Int64)) - (4 : Int64)) + ((y1 >>> ((3 : Int32).toInt64 &&& 63)) &&& (3 : Int64)))), .second, .val (.long ((((y1 &&& (7 : Int64)) - (4 : Int64)) + ((y1 >>> ((3 : Int32).toInt64 &&& 63)) &&& (3 : Int64))) + ((y1 >>> ((5 : Int32).toInt64 &&& 63)) &&& (3 : Int64)))), .second, .val (.int (x2 + (x3 &&& (1 : Int32)))), .val (.int (x2 + ((x3 >>> ((1 : Int32) &&& 31)) &&& (1 : Int32)))), .val (.int (x2 + ((x3 >>> ((2 : Int32) &&& 31)) &&& (1 : Int32)))), .val (.ref b1), .val (.ref b5), .val (.ref b8), .val (.ref b12), .val (.ref b17), .val (.int (1 : Int32))] [(.long (((y1 &&& (7 : Int64)) - (4 : Int64)) + ((y1 >>> ((3 : Int32).toInt64 &&& 63)) &&& (3 : Int64)))), (.ref b17)])
    refine own_by (fun t_ k_ => XS.iload X62.here hx rfl (hb hby at_157) rfl k_) ?_
    show own_Go p e below _ T62 (mkF m 159 #[.val (.int x1), .val (.long y1), .second, .val (.long y2), .second, .val (.long y3), .second, .val (.int x2), .val (.int x3), .val (.int (2 : Int32)), .val (.long ((y1 &&& (7 : Int64)) - (4 : Int64))), .second, .val (.long (((y1 &&& (7 : Int64)) - (4 : Int64)) + ((y1 >>> ((3 : Int32).toInt64 &&& 63)) &&& (3 : Int64)))), .second, .val (.long ((((y1 &&& (7 : Int64)) - (4 : Int64)) + ((y1 >>> ((3 : Int32).toInt64 &&& 63)) &&& (3 : Int64))) + ((y1 >>> ((5 : Int32).toInt64 &&& 63)) &&& (3 : Int64)))), .second, .val (.int (x2 + (x3 &&& (1 : Int32)))), .val (.int (x2 + ((x3 >>> ((1 : Int32) &&& 31)) &&& (1 : Int32)))), .val (.int (x2 + ((x3 >>> ((2 : Int32) &&& 31)) &&& (1 : Int32)))), .val (.ref b1), .val (.ref b5), .val (.ref b8), .val (.ref b12), .val (.ref b17), .val (.int (1 : Int32))] [(.int (x2 + ((x3 >>> ((1 : Int32) &&& 31)) &&& (1 : Int32)))), (.long (((y1 &&& (7 : Int64)) - (4 : Int64)) + ((y1 >>> ((3 : Int32).toInt64 &&& 63)) &&& (3 : Int64)))), (.ref b17)])
    refine own_by (fun t_ k_ => XS.aload X62.here hx rfl (hb hby at_159) rfl rfl k_) ?_
    show own_Go p e below _ T62 (mkF m 161 #[.val (.int x1), .val (.long y1), .second, .val (.long y2), .second, .val (.long y3), .second, .val (.int x2), .val (.int x3), .val (.int (2 : Int32)), .val (.long ((y1 &&& (7 : Int64)) - (4 : Int64))), .second, .val (.long (((y1 &&& (7 : Int64)) - (4 : Int64)) + ((y1 >>> ((3 : Int32).toInt64 &&& 63)) &&& (3 : Int64)))), .second, .val (.long ((((y1 &&& (7 : Int64)) - (4 : Int64)) + ((y1 >>> ((3 : Int32).toInt64 &&& 63)) &&& (3 : Int64))) + ((y1 >>> ((5 : Int32).toInt64 &&& 63)) &&& (3 : Int64)))), .second, .val (.int (x2 + (x3 &&& (1 : Int32)))), .val (.int (x2 + ((x3 >>> ((1 : Int32) &&& 31)) &&& (1 : Int32)))), .val (.int (x2 + ((x3 >>> ((2 : Int32) &&& 31)) &&& (1 : Int32)))), .val (.ref b1), .val (.ref b5), .val (.ref b8), .val (.ref b12), .val (.ref b17), .val (.int (1 : Int32))] [(.ref b8), (.int (x2 + ((x3 >>> ((1 : Int32) &&& 31)) &&& (1 : Int32)))), (.long (((y1 &&& (7 : Int64)) - (4 : Int64)) + ((y1 >>> ((3 : Int32).toInt64 &&& 63)) &&& (3 : Int64)))), (.ref b17)])
    refine own_callV (W := 0) X62 hx hZ (y := (⟨"com/example/hedgewalk/hedgewalk/eval/GoalQueue", "add", "(JILcom/example/hedgewalk/hedgewalk/eval/Verdict$Listener;)V"⟩ : MethodName)) (z := (⟨"com/example/hedgewalk/hedgewalk/eval/GoalQueue", "add", "(JILcom/example/hedgewalk/hedgewalk/eval/Verdict$Listener;)V"⟩ : MethodName)) hown (own_w hw 101 rfl) (own_w hw 102 rfl) (notFace_of_selects (args := #[]) (mvT hZ (own_w hw 104 rfl))) (own_w hw 104 rfl) (own_w hw 103 rfl) (own_w hw 52 rfl) (own_w hw 105 rfl) (by decide) (by rw [hml]; rfl) (argsL := [(.long (((y1 &&& (7 : Int64)) - (4 : Int64)) + ((y1 >>> ((3 : Int32).toInt64 &&& 63)) &&& (3 : Int64)))), (.int (x2 + ((x3 >>> ((1 : Int32) &&& 31)) &&& (1 : Int32)))), (.ref b8)]) pd_9 rfl (a := b17) rfl Eq63 (rm16 l Z a0 hw [] b17 (((y1 &&& (7 : Int64)) - (4 : Int64)) + ((y1 >>> ((3 : Int32).toInt64 &&& 63)) &&& (3 : Int64))) (x2 + ((x3 >>> ((1 : Int32) &&& 31)) &&& (1 : Int32))) b8 aH aF bk bh bg b1 ([b5, b8, b12] : List Addr) ([b5] : List Addr) ([b5] : List Addr) ([b8, b12] : List Addr) 1 0 ([b12] : List Addr) T62.heap n0 sz63_ HW63_ (by decide) rfl (by simp) (ninS (Nat.ne_of_lt lt_b8_b12) nin0) (ninS (Ne.symm (Nat.ne_of_lt lt_b5_b8)) nin0)) (by decide) (by decide) (Nat.le_of_eq rfl) (by decide) (by decide) (rest := []) rfl (hb hby at_161) ?_
    intro v64 T64 L64 X64 hQ64
    obtain ⟨rfl, N64q, HX64⟩ := hQ64
    have N64 := Fr.app N62 N64q
    have HW65_ : own_W Z T64.heap n0 aH aF b17 bk bh bg b1 ([b5, b8, b12] : List Addr) ([b5, b8] : List Addr) ([b5, b8] : List Addr) ([b12] : List Addr) 2 0 := HX64
    have Eq65 := HW65_.exa
    have sz65_ := HW65_.sz
    show own_Go p e below _ T64 (mkF m 164 #[.val (.int x1), .val (.long y1), .second, .val (.long y2), .second, .val (.long y3), .second, .val (.int x2), .val (.int x3), .val (.int (2 : Int32)), .val (.long ((y1 &&& (7 : Int64)) - (4 : Int64))), .second, .val (.long (((y1 &&& (7 : Int64)) - (4 : Int64)) + ((y1 >>> ((3 : Int32).toInt64 &&& 63)) &&& (3 : Int64)))), .second, .val (.long ((((y1 &&& (7 : Int64)) - (4 : Int64)) + ((y1 >>> ((3 : Int32).toInt64 &&& 63)) &&& (3 : Int64))) + ((y1 >>> ((5 : Int32).toInt64 &&& 63)) &&& (3 : Int64)))), .second, .val (.int (x2 + (x3 &&& (1 : Int32)))), .val (.int (x2 + ((x3 >>> ((1 : Int32) &&& 31)) &&& (1 : Int32)))), .val (.int (x2 + ((x3 >>> ((2 : Int32) &&& 31)) &&& (1 : Int32)))), .val (.ref b1), .val (.ref b5), .val (.ref b8), .val (.ref b12), .val (.ref b17), .val (.int (1 : Int32))] [])
    refine own_by (fun t_ k_ => XS.iload X64.here hx rfl (hb hby at_164) rfl k_) ?_
    show own_Go p e below _ T64 (mkF m 166 #[.val (.int x1), .val (.long y1), .second, .val (.long y2), .second, .val (.long y3), .second, .val (.int x2), .val (.int x3), .val (.int (2 : Int32)), .val (.long ((y1 &&& (7 : Int64)) - (4 : Int64))), .second, .val (.long (((y1 &&& (7 : Int64)) - (4 : Int64)) + ((y1 >>> ((3 : Int32).toInt64 &&& 63)) &&& (3 : Int64)))), .second, .val (.long ((((y1 &&& (7 : Int64)) - (4 : Int64)) + ((y1 >>> ((3 : Int32).toInt64 &&& 63)) &&& (3 : Int64))) + ((y1 >>> ((5 : Int32).toInt64 &&& 63)) &&& (3 : Int64)))), .second, .val (.int (x2 + (x3 &&& (1 : Int32)))), .val (.int (x2 + ((x3 >>> ((1 : Int32) &&& 31)) &&& (1 : Int32)))), .val (.int (x2 + ((x3 >>> ((2 : Int32) &&& 31)) &&& (1 : Int32)))), .val (.ref b1), .val (.ref b5), .val (.ref b8), .val (.ref b12), .val (.ref b17), .val (.int (1 : Int32))] [(.int (2 : Int32))])
    refine own_by (fun t_ k_ => XS.iconst X64.here hx rfl (hb hby at_166) k_) ?_
    show own_Go p e below _ T64 (mkF m 167 #[.val (.int x1), .val (.long y1), .second, .val (.long y2), .second, .val (.long y3), .second, .val (.int x2), .val (.int x3), .val (.int (2 : Int32)), .val (.long ((y1 &&& (7 : Int64)) - (4 : Int64))), .second, .val (.long (((y1 &&& (7 : Int64)) - (4 : Int64)) + ((y1 >>> ((3 : Int32).toInt64 &&& 63)) &&& (3 : Int64)))), .second, .val (.long ((((y1 &&& (7 : Int64)) - (4 : Int64)) + ((y1 >>> ((3 : Int32).toInt64 &&& 63)) &&& (3 : Int64))) + ((y1 >>> ((5 : Int32).toInt64 &&& 63)) &&& (3 : Int64)))), .second, .val (.int (x2 + (x3 &&& (1 : Int32)))), .val (.int (x2 + ((x3 >>> ((1 : Int32) &&& 31)) &&& (1 : Int32)))), .val (.int (x2 + ((x3 >>> ((2 : Int32) &&& 31)) &&& (1 : Int32)))), .val (.ref b1), .val (.ref b5), .val (.ref b8), .val (.ref b12), .val (.ref b17), .val (.int (1 : Int32))] [(.int (2 : Int32)), (.int (2 : Int32))])
    refine own_icmp X64 hx 181 (hb hby at_167) (by decide) (by decide) (fun _ => ?_) (fun hc => absurd (show ¬ (2 : Int32) < (2 : Int32) from by decide) (by first | exact hc | exact not_not_intro hc))
    show own_Go p e below _ T64 (mkF m 181 #[.val (.int x1), .val (.long y1), .second, .val (.long y2), .second, .val (.long y3), .second, .val (.int x2), .val (.int x3), .val (.int (2 : Int32)), .val (.long ((y1 &&& (7 : Int64)) - (4 : Int64))), .second, .val (.long (((y1 &&& (7 : Int64)) - (4 : Int64)) + ((y1 >>> ((3 : Int32).toInt64 &&& 63)) &&& (3 : Int64)))), .second, .val (.long ((((y1 &&& (7 : Int64)) - (4 : Int64)) + ((y1 >>> ((3 : Int32).toInt64 &&& 63)) &&& (3 : Int64))) + ((y1 >>> ((5 : Int32).toInt64 &&& 63)) &&& (3 : Int64)))), .second, .val (.int (x2 + (x3 &&& (1 : Int32)))), .val (.int (x2 + ((x3 >>> ((1 : Int32) &&& 31)) &&& (1 : Int32)))), .val (.int (x2 + ((x3 >>> ((2 : Int32) &&& 31)) &&& (1 : Int32)))), .val (.ref b1), .val (.ref b5), .val (.ref b8), .val (.ref b12), .val (.ref b17), .val (.int (1 : Int32))] [])
    refine own_by (fun t_ k_ => XS.iload X64.here hx rfl (hb hby at_181) rfl k_) ?_
    show own_Go p e below _ T64 (mkF m 183 #[.val (.int x1), .val (.long y1), .second, .val (.long y2), .second, .val (.long y3), .second, .val (.int x2), .val (.int x3), .val (.int (2 : Int32)), .val (.long ((y1 &&& (7 : Int64)) - (4 : Int64))), .second, .val (.long (((y1 &&& (7 : Int64)) - (4 : Int64)) + ((y1 >>> ((3 : Int32).toInt64 &&& 63)) &&& (3 : Int64)))), .second, .val (.long ((((y1 &&& (7 : Int64)) - (4 : Int64)) + ((y1 >>> ((3 : Int32).toInt64 &&& 63)) &&& (3 : Int64))) + ((y1 >>> ((5 : Int32).toInt64 &&& 63)) &&& (3 : Int64)))), .second, .val (.int (x2 + (x3 &&& (1 : Int32)))), .val (.int (x2 + ((x3 >>> ((1 : Int32) &&& 31)) &&& (1 : Int32)))), .val (.int (x2 + ((x3 >>> ((2 : Int32) &&& 31)) &&& (1 : Int32)))), .val (.ref b1), .val (.ref b5), .val (.ref b8), .val (.ref b12), .val (.ref b17), .val (.int (1 : Int32))] [(.int (1 : Int32))])
    refine own_if X64 hx 208 (hb hby at_183) (by decide) (by decide) (fun hc => absurd (show ¬ (1 : Int32) = (0 : Int32) from by decide) (by first | exact hc | exact not_not_intro hc)) (fun _ => ?_)
    show own_Go p e below _ T64 (mkF m 186 #[.val (.int x1), .val (.long y1), .second, .val (.long y2), .second, .val (.long y3), .second, .val (.int x2), .val (.int x3), .val (.int (2 : Int32)), .val (.long ((y1 &&& (7 : Int64)) - (4 : Int64))), .second, .val (.long (((y1 &&& (7 : Int64)) - (4 : Int64)) + ((y1 >>> ((3 : Int32).toInt64 &&& 63)) &&& (3 : Int64)))), .second, .val (.long ((((y1 &&& (7 : Int64)) - (4 : Int64)) + ((y1 >>> ((3 : Int32).toInt64 &&& 63)) &&& (3 : Int64))) + ((y1 >>> ((5 : Int32).toInt64 &&& 63)) &&& (3 : Int64)))), .second, .val (.int (x2 + (x3 &&& (1 : Int32)))), .val (.int (x2 + ((x3 >>> ((1 : Int32) &&& 31)) &&& (1 : Int32)))), .val (.int (x2 + ((x3 >>> ((2 : Int32) &&& 31)) &&& (1 : Int32)))), .val (.ref b1), .val (.ref b5), .val (.ref b8), .val (.ref b12), .val (.ref b17), .val (.int (1 : Int32))] [])
    refine own_by (fun t_ k_ => XS.aload X64.here hx rfl (hb hby at_186) rfl rfl k_) ?_
    show own_Go p e below _ T64 (mkF m 188 #[.val (.int x1), .val (.long y1), .second, .val (.long y2), .second, .val (.long y3), .second, .val (.int x2), .val (.int x3), .val (.int (2 : Int32)), .val (.long ((y1 &&& (7 : Int64)) - (4 : Int64))), .second, .val (.long (((y1 &&& (7 : Int64)) - (4 : Int64)) + ((y1 >>> ((3 : Int32).toInt64 &&& 63)) &&& (3 : Int64)))), .second, .val (.long ((((y1 &&& (7 : Int64)) - (4 : Int64)) + ((y1 >>> ((3 : Int32).toInt64 &&& 63)) &&& (3 : Int64))) + ((y1 >>> ((5 : Int32).toInt64 &&& 63)) &&& (3 : Int64)))), .second, .val (.int (x2 + (x3 &&& (1 : Int32)))), .val (.int (x2 + ((x3 >>> ((1 : Int32) &&& 31)) &&& (1 : Int32)))), .val (.int (x2 + ((x3 >>> ((2 : Int32) &&& 31)) &&& (1 : Int32)))), .val (.ref b1), .val (.ref b5), .val (.ref b8), .val (.ref b12), .val (.ref b17), .val (.int (1 : Int32))] [(.ref b17)])
    refine own_callV (W := 0) X64 hx hZ (y := (⟨"com/example/hedgewalk/hedgewalk/eval/GoalQueue", "hasOpen", "()Z"⟩ : MethodName)) (z := (⟨"com/example/hedgewalk/hedgewalk/eval/GoalQueue", "hasOpen", "()Z"⟩ : MethodName)) hown (own_w hw 67 rfl) (own_w hw 68 rfl) (notFace_of_selects (args := #[]) (mvT hZ (own_w hw 70 rfl))) (own_w hw 70 rfl) (own_w hw 69 rfl) (own_w hw 52 rfl) (own_w hw 71 rfl) (by decide) (by rw [hml]; rfl) (argsL := []) pd_2 rfl (a := b17) rfl Eq65 (rm9 l Z a0 hw [] b17 aH aF bk bh bg b1 ([b5, b8, b12] : List Addr) ([b5, b8] : List Addr) ([b5, b8] : List Addr) ([b12] : List Addr) 2 0 T64.heap n0 sz65_ HW65_) (by decide) (by decide) (Nat.le_of_eq rfl) (by decide) (by decide) (rest := []) rfl (hb hby at_188) ?_
    intro v66 T66 L66 X66 hQ66
    obtain ⟨rfl, N66q, e66⟩ := hQ66
    have N66 := Fr.app N64 N66q
    show own_Go p e below _ T66 (mkF m 191 #[.val (.int x1), .val (.long y1), .second, .val (.long y2), .second, .val (.long y3), .second, .val (.int x2), .val (.int x3), .val (.int (2 : Int32)), .val (.long ((y1 &&& (7 : Int64)) - (4 : Int64))), .second, .val (.long (((y1 &&& (7 : Int64)) - (4 : Int64)) + ((y1 >>> ((3 : Int32).toInt64 &&& 63)) &&& (3 : Int64)))), .second, .val (.long ((((y1 &&& (7 : Int64)) - (4 : Int64)) + ((y1 >>> ((3 : Int32).toInt64 &&& 63)) &&& (3 : Int64))) + ((y1 >>> ((5 : Int32).toInt64 &&& 63)) &&& (3 : Int64)))), .second, .val (.int (x2 + (x3 &&& (1 : Int32)))), .val (.int (x2 + ((x3 >>> ((1 : Int32) &&& 31)) &&& (1 : Int32)))), .val (.int (x2 + ((x3 >>> ((2 : Int32) &&& 31)) &&& (1 : Int32)))), .val (.ref b1), .val (.ref b5), .val (.ref b8), .val (.ref b12), .val (.ref b17), .val (.int (1 : Int32))] [(.int (own_h ([b5, b8] : List Addr)))])
    refine own_by (fun t_ k_ => XS.iload X66.here hx rfl (hb hby at_191) rfl k_) ?_
    show own_Go p e below _ T66 (mkF m 193 #[.val (.int x1), .val (.long y1), .second, .val (.long y2), .second, .val (.long y3), .second, .val (.int x2), .val (.int x3), .val (.int (2 : Int32)), .val (.long ((y1 &&& (7 : Int64)) - (4 : Int64))), .second, .val (.long (((y1 &&& (7 : Int64)) - (4 : Int64)) + ((y1 >>> ((3 : Int32).toInt64 &&& 63)) &&& (3 : Int64)))), .second, .val (.long ((((y1 &&& (7 : Int64)) - (4 : Int64)) + ((y1 >>> ((3 : Int32).toInt64 &&& 63)) &&& (3 : Int64))) + ((y1 >>> ((5 : Int32).toInt64 &&& 63)) &&& (3 : Int64)))), .second, .val (.int (x2 + (x3 &&& (1 : Int32)))), .val (.int (x2 + ((x3 >>> ((1 : Int32) &&& 31)) &&& (1 : Int32)))), .val (.int (x2 + ((x3 >>> ((2 : Int32) &&& 31)) &&& (1 : Int32)))), .val (.ref b1), .val (.ref b5), .val (.ref b8), .val (.ref b12), .val (.ref b17), .val (.int (1 : Int32))] [(.int (2 : Int32)), (.int (own_h ([b5, b8] : List Addr)))])
    refine own_if X66 hx 200 (hb hby at_193) (by decide) (by decide) (fun hc => absurd (show (0 : Int32) < (2 : Int32) from by decide) (by first | exact hc | exact not_not_intro hc)) (fun _ => ?_)
    show own_Go p e below _ T66 (mkF m 196 #[.val (.int x1), .val (.long y1), .second, .val (.long y2), .second, .val (.long y3), .second, .val (.int x2), .val (.int x3), .val (.int (2 : Int32)), .val (.long ((y1 &&& (7 : Int64)) - (4 : Int64))), .second, .val (.long (((y1 &&& (7 : Int64)) - (4 : Int64)) + ((y1 >>> ((3 : Int32).toInt64 &&& 63)) &&& (3 : Int64)))), .second, .val (.long ((((y1 &&& (7 : Int64)) - (4 : Int64)) + ((y1 >>> ((3 : Int32).toInt64 &&& 63)) &&& (3 : Int64))) + ((y1 >>> ((5 : Int32).toInt64 &&& 63)) &&& (3 : Int64)))), .second, .val (.int (x2 + (x3 &&& (1 : Int32)))), .val (.int (x2 + ((x3 >>> ((1 : Int32) &&& 31)) &&& (1 : Int32)))), .val (.int (x2 + ((x3 >>> ((2 : Int32) &&& 31)) &&& (1 : Int32)))), .val (.ref b1), .val (.ref b5), .val (.ref b8), .val (.ref b12), .val (.ref b17), .val (.int (1 : Int32))] [(.int (own_h ([b5, b8] : List Addr)))])
    refine own_by (fun t_ k_ => XS.iconst X66.here hx rfl (hb hby at_196) k_) ?_
    show own_Go p e below _ T66 (mkF m 197 #[.val (.int x1), .val (.long y1), .second, .val (.long y2), .second, .val (.long y3), .second, .val (.int x2), .val (.int x3), .val (.int (2 : Int32)), .val (.long ((y1 &&& (7 : Int64)) - (4 : Int64))), .second, .val (.long (((y1 &&& (7 : Int64)) - (4 : Int64)) + ((y1 >>> ((3 : Int32).toInt64 &&& 63)) &&& (3 : Int64)))), .second, .val (.long ((((y1 &&& (7 : Int64)) - (4 : Int64)) + ((y1 >>> ((3 : Int32).toInt64 &&& 63)) &&& (3 : Int64))) + ((y1 >>> ((5 : Int32).toInt64 &&& 63)) &&& (3 : Int64)))), .second, .val (.int (x2 + (x3 &&& (1 : Int32)))), .val (.int (x2 + ((x3 >>> ((1 : Int32) &&& 31)) &&& (1 : Int32)))), .val (.int (x2 + ((x3 >>> ((2 : Int32) &&& 31)) &&& (1 : Int32)))), .val (.ref b1), .val (.ref b5), .val (.ref b8), .val (.ref b12), .val (.ref b17), .val (.int (1 : Int32))] [(.int (1 : Int32)), (.int (own_h ([b5, b8] : List Addr)))])
    refine own_by (fun t_ k_ => XS.goto X66.here hx rfl (pc0 := 197) (pc' := 201) rfl (hb hby at_197) (by decide) (by decide) k_) ?_
    show own_Go p e below _ T66 (mkF m 201 #[.val (.int x1), .val (.long y1), .second, .val (.long y2), .second, .val (.long y3), .second, .val (.int x2), .val (.int x3), .val (.int (2 : Int32)), .val (.long ((y1 &&& (7 : Int64)) - (4 : Int64))), .second, .val (.long (((y1 &&& (7 : Int64)) - (4 : Int64)) + ((y1 >>> ((3 : Int32).toInt64 &&& 63)) &&& (3 : Int64)))), .second, .val (.long ((((y1 &&& (7 : Int64)) - (4 : Int64)) + ((y1 >>> ((3 : Int32).toInt64 &&& 63)) &&& (3 : Int64))) + ((y1 >>> ((5 : Int32).toInt64 &&& 63)) &&& (3 : Int64)))), .second, .val (.int (x2 + (x3 &&& (1 : Int32)))), .val (.int (x2 + ((x3 >>> ((1 : Int32) &&& 31)) &&& (1 : Int32)))), .val (.int (x2 + ((x3 >>> ((2 : Int32) &&& 31)) &&& (1 : Int32)))), .val (.ref b1), .val (.ref b5), .val (.ref b8), .val (.ref b12), .val (.ref b17), .val (.int (1 : Int32))] [(.int (1 : Int32)), (.int (own_h ([b5, b8] : List Addr)))])
    refine own_icmp X66 hx 208 (hb hby at_201) (by decide) (by decide) (fun hc => absurd (show (own_h ([b5, b8] : List Addr)) = (1 : Int32) from own_hm (x := b5) (by simp)) (by first | exact hc | exact not_not_intro hc)) (fun _ => ?_)
    show own_Go p e below _ T66 (mkF m 204 #[.val (.int x1), .val (.long y1), .second, .val (.long y2), .second, .val (.long y3), .second, .val (.int x2), .val (.int x3), .val (.int (2 : Int32)), .val (.long ((y1 &&& (7 : Int64)) - (4 : Int64))), .second, .val (.long (((y1 &&& (7 : Int64)) - (4 : Int64)) + ((y1 >>> ((3 : Int32).toInt64 &&& 63)) &&& (3 : Int64)))), .second, .val (.long ((((y1 &&& (7 : Int64)) - (4 : Int64)) + ((y1 >>> ((3 : Int32).toInt64 &&& 63)) &&& (3 : Int64))) + ((y1 >>> ((5 : Int32).toInt64 &&& 63)) &&& (3 : Int64)))), .second, .val (.int (x2 + (x3 &&& (1 : Int32)))), .val (.int (x2 + ((x3 >>> ((1 : Int32) &&& 31)) &&& (1 : Int32)))), .val (.int (x2 + ((x3 >>> ((2 : Int32) &&& 31)) &&& (1 : Int32)))), .val (.ref b1), .val (.ref b5), .val (.ref b8), .val (.ref b12), .val (.ref b17), .val (.int (1 : Int32))] [])
    refine own_by (fun t_ k_ => XS.iconst X66.here hx rfl (hb hby at_204) k_) ?_
    show own_Go p e below _ T66 (mkF m 205 #[.val (.int x1), .val (.long y1), .second, .val (.long y2), .second, .val (.long y3), .second, .val (.int x2), .val (.int x3), .val (.int (2 : Int32)), .val (.long ((y1 &&& (7 : Int64)) - (4 : Int64))), .second, .val (.long (((y1 &&& (7 : Int64)) - (4 : Int64)) + ((y1 >>> ((3 : Int32).toInt64 &&& 63)) &&& (3 : Int64)))), .second, .val (.long ((((y1 &&& (7 : Int64)) - (4 : Int64)) + ((y1 >>> ((3 : Int32).toInt64 &&& 63)) &&& (3 : Int64))) + ((y1 >>> ((5 : Int32).toInt64 &&& 63)) &&& (3 : Int64)))), .second, .val (.int (x2 + (x3 &&& (1 : Int32)))), .val (.int (x2 + ((x3 >>> ((1 : Int32) &&& 31)) &&& (1 : Int32)))), .val (.int (x2 + ((x3 >>> ((2 : Int32) &&& 31)) &&& (1 : Int32)))), .val (.ref b1), .val (.ref b5), .val (.ref b8), .val (.ref b12), .val (.ref b17), .val (.int (1 : Int32))] [(.int (1 : Int32))])
    refine own_by (fun t_ k_ => XS.goto X66.here hx rfl (pc0 := 205) (pc' := 209) rfl (hb hby at_205) (by decide) (by decide) k_) ?_
    show own_Go p e below _ T66 (mkF m 209 #[.val (.int x1), .val (.long y1), .second, .val (.long y2), .second, .val (.long y3), .second, .val (.int x2), .val (.int x3), .val (.int (2 : Int32)), .val (.long ((y1 &&& (7 : Int64)) - (4 : Int64))), .second, .val (.long (((y1 &&& (7 : Int64)) - (4 : Int64)) + ((y1 >>> ((3 : Int32).toInt64 &&& 63)) &&& (3 : Int64)))), .second, .val (.long ((((y1 &&& (7 : Int64)) - (4 : Int64)) + ((y1 >>> ((3 : Int32).toInt64 &&& 63)) &&& (3 : Int64))) + ((y1 >>> ((5 : Int32).toInt64 &&& 63)) &&& (3 : Int64)))), .second, .val (.int (x2 + (x3 &&& (1 : Int32)))), .val (.int (x2 + ((x3 >>> ((1 : Int32) &&& 31)) &&& (1 : Int32)))), .val (.int (x2 + ((x3 >>> ((2 : Int32) &&& 31)) &&& (1 : Int32)))), .val (.ref b1), .val (.ref b5), .val (.ref b8), .val (.ref b12), .val (.ref b17), .val (.int (1 : Int32))] [(.int (1 : Int32))])
    refine own_by (fun t_ k_ => XS.istore X66.here hx rfl (hb hby at_209) rfl (l' := #[.val (.int x1), .val (.long y1), .second, .val (.long y2), .second, .val (.long y3), .second, .val (.int x2), .val (.int x3), .val (.int (2 : Int32)), .val (.long ((y1 &&& (7 : Int64)) - (4 : Int64))), .second, .val (.long (((y1 &&& (7 : Int64)) - (4 : Int64)) + ((y1 >>> ((3 : Int32).toInt64 &&& 63)) &&& (3 : Int64)))), .second, .val (.long ((((y1 &&& (7 : Int64)) - (4 : Int64)) + ((y1 >>> ((3 : Int32).toInt64 &&& 63)) &&& (3 : Int64))) + ((y1 >>> ((5 : Int32).toInt64 &&& 63)) &&& (3 : Int64)))), .second, .val (.int (x2 + (x3 &&& (1 : Int32)))), .val (.int (x2 + ((x3 >>> ((1 : Int32) &&& 31)) &&& (1 : Int32)))), .val (.int (x2 + ((x3 >>> ((2 : Int32) &&& 31)) &&& (1 : Int32)))), .val (.ref b1), .val (.ref b5), .val (.ref b8), .val (.ref b12), .val (.ref b17), .val (.int (1 : Int32))]) rfl k_) ?_
    show own_Go p e below _ T66 (mkF m 211 #[.val (.int x1), .val (.long y1), .second, .val (.long y2), .second, .val (.long y3), .second, .val (.int x2), .val (.int x3), .val (.int (2 : Int32)), .val (.long ((y1 &&& (7 : Int64)) - (4 : Int64))), .second, .val (.long (((y1 &&& (7 : Int64)) - (4 : Int64)) + ((y1 >>> ((3 : Int32).toInt64 &&& 63)) &&& (3 : Int64)))), .second, .val (.long ((((y1 &&& (7 : Int64)) - (4 : Int64)) + ((y1 >>> ((3 : Int32).toInt64 &&& 63)) &&& (3 : Int64))) + ((y1 >>> ((5 : Int32).toInt64 &&& 63)) &&& (3 : Int64)))), .second, .val (.int (x2 + (x3 &&& (1 : Int32)))), .val (.int (x2 + ((x3 >>> ((1 : Int32) &&& 31)) &&& (1 : Int32)))), .val (.int (x2 + ((x3 >>> ((2 : Int32) &&& 31)) &&& (1 : Int32)))), .val (.ref b1), .val (.ref b5), .val (.ref b8), .val (.ref b12), .val (.ref b17), .val (.int (1 : Int32))] [])
    refine own_by (fun t_ k_ => XS.aload X66.here hx rfl (hb hby at_211) rfl rfl k_) ?_
    show own_Go p e below _ T66 (mkF m 213 #[.val (.int x1), .val (.long y1), .second, .val (.long y2), .second, .val (.long y3), .second, .val (.int x2), .val (.int x3), .val (.int (2 : Int32)), .val (.long ((y1 &&& (7 : Int64)) - (4 : Int64))), .second, .val (.long (((y1 &&& (7 : Int64)) - (4 : Int64)) + ((y1 >>> ((3 : Int32).toInt64 &&& 63)) &&& (3 : Int64)))), .second, .val (.long ((((y1 &&& (7 : Int64)) - (4 : Int64)) + ((y1 >>> ((3 : Int32).toInt64 &&& 63)) &&& (3 : Int64))) + ((y1 >>> ((5 : Int32).toInt64 &&& 63)) &&& (3 : Int64)))), .second, .val (.int (x2 + (x3 &&& (1 : Int32)))), .val (.int (x2 + ((x3 >>> ((1 : Int32) &&& 31)) &&& (1 : Int32)))), .val (.int (x2 + ((x3 >>> ((2 : Int32) &&& 31)) &&& (1 : Int32)))), .val (.ref b1), .val (.ref b5), .val (.ref b8), .val (.ref b12), .val (.ref b17), .val (.int (1 : Int32))] [(.ref b17)])
    refine own_by (fun t_ k_ => XS.aload X66.here hx rfl (hb hby at_213) rfl rfl k_) ?_
    show own_Go p e below _ T66 (mkF m 215 #[.val (.int x1), .val (.long y1), .second, .val (.long y2), .second, .val (.long y3), .second, .val (.int x2), .val (.int x3), .val (.int (2 : Int32)), .val (.long ((y1 &&& (7 : Int64)) - (4 : Int64))), .second, .val (.long (((y1 &&& (7 : Int64)) - (4 : Int64)) + ((y1 >>> ((3 : Int32).toInt64 &&& 63)) &&& (3 : Int64)))), .second, .val (.long ((((y1 &&& (7 : Int64)) - (4 : Int64)) + ((y1 >>> ((3 : Int32).toInt64 &&& 63)) &&& (3 : Int64))) + ((y1 >>> ((5 : Int32).toInt64 &&& 63)) &&& (3 : Int64)))), .second, .val (.int (x2 + (x3 &&& (1 : Int32)))), .val (.int (x2 + ((x3 >>> ((1 : Int32) &&& 31)) &&& (1 : Int32)))), .val (.int (x2 + ((x3 >>> ((2 : Int32) &&& 31)) &&& (1 : Int32)))), .val (.ref b1), .val (.ref b5), .val (.ref b8), .val (.ref b12), .val (.ref b17), .val (.int (1 : Int32))] [(.ref b1), (.ref b17)])
    refine own_by (fun t_ k_ => XS.iloadN X66.here hx rfl (hb hby at_215) rfl k_) ?_
    show own_Go p e below _ T66 (mkF m 216 #[.val (.int x1), .val (.long y1), .second, .val (.long y2), .second, .val (.long y3), .second, .val (.int x2), .val (.int x3), .val (.int (2 : Int32)), .val (.long ((y1 &&& (7 : Int64)) - (4 : Int64))), .second, .val (.long (((y1 &&& (7 : Int64)) - (4 : Int64)) + ((y1 >>> ((3 : Int32).toInt64 &&& 63)) &&& (3 : Int64)))), .second, .val (.long ((((y1 &&& (7 : Int64)) - (4 : Int64)) + ((y1 >>> ((3 : Int32).toInt64 &&& 63)) &&& (3 : Int64))) + ((y1 >>> ((5 : Int32).toInt64 &&& 63)) &&& (3 : Int64)))), .second, .val (.int (x2 + (x3 &&& (1 : Int32)))), .val (.int (x2 + ((x3 >>> ((1 : Int32) &&& 31)) &&& (1 : Int32)))), .val (.int (x2 + ((x3 >>> ((2 : Int32) &&& 31)) &&& (1 : Int32)))), .val (.ref b1), .val (.ref b5), .val (.ref b8), .val (.ref b12), .val (.ref b17), .val (.int (1 : Int32))] [(.int x1), (.ref b1), (.ref b17)])
    refine own_by (fun t_ k_ => XS.iconst X66.here hx rfl (hb hby at_216) k_) ?_
    show own_Go p e below _ T66 (mkF m 217 #[.val (.int x1), .val (.long y1), .second, .val (.long y2), .second, .val (.long y3), .second, .val (.int x2), .val (.int x3), .val (.int (2 : Int32)), .val (.long ((y1 &&& (7 : Int64)) - (4 : Int64))), .second, .val (.long (((y1 &&& (7 : Int64)) - (4 : Int64)) + ((y1 >>> ((3 : Int32).toInt64 &&& 63)) &&& (3 : Int64)))), .second, .val (.long ((((y1 &&& (7 : Int64)) - (4 : Int64)) + ((y1 >>> ((3 : Int32).toInt64 &&& 63)) &&& (3 : Int64))) + ((y1 >>> ((5 : Int32).toInt64 &&& 63)) &&& (3 : Int64)))), .second, .val (.int (x2 + (x3 &&& (1 : Int32)))), .val (.int (x2 + ((x3 >>> ((1 : Int32) &&& 31)) &&& (1 : Int32)))), .val (.int (x2 + ((x3 >>> ((2 : Int32) &&& 31)) &&& (1 : Int32)))), .val (.ref b1), .val (.ref b5), .val (.ref b8), .val (.ref b12), .val (.ref b17), .val (.int (1 : Int32))] [(.int (2 : Int32)), (.int x1), (.ref b1), (.ref b17)])
    refine own_by (fun t_ k_ => XT.ishr X66.here hx rfl (hb hby at_217) rfl k_) ?_
    show own_Go p e below _ T66 (mkF m 218 #[.val (.int x1), .val (.long y1), .second, .val (.long y2), .second, .val (.long y3), .second, .val (.int x2), .val (.int x3), .val (.int (2 : Int32)), .val (.long ((y1 &&& (7 : Int64)) - (4 : Int64))), .second, .val (.long (((y1 &&& (7 : Int64)) - (4 : Int64)) + ((y1 >>> ((3 : Int32).toInt64 &&& 63)) &&& (3 : Int64)))), .second, .val (.long ((((y1 &&& (7 : Int64)) - (4 : Int64)) + ((y1 >>> ((3 : Int32).toInt64 &&& 63)) &&& (3 : Int64))) + ((y1 >>> ((5 : Int32).toInt64 &&& 63)) &&& (3 : Int64)))), .second, .val (.int (x2 + (x3 &&& (1 : Int32)))), .val (.int (x2 + ((x3 >>> ((1 : Int32) &&& 31)) &&& (1 : Int32)))), .val (.int (x2 + ((x3 >>> ((2 : Int32) &&& 31)) &&& (1 : Int32)))), .val (.ref b1), .val (.ref b5), .val (.ref b8), .val (.ref b12), .val (.ref b17), .val (.int (1 : Int32))] [(.int (x1 >>> ((2 : Int32) &&& 31))), (.ref b1), (.ref b17)])
    refine own_by (fun t_ k_ => XS.iloadN X66.here hx rfl (hb hby at_218) rfl k_) ?_
    show own_Go p e below _ T66 (mkF m 219 #[.val (.int x1), .val (.long y1), .second, .val (.long y2), .second, .val (.long y3), .second, .val (.int x2), .val (.int x3), .val (.int (2 : Int32)), .val (.long ((y1 &&& (7 : Int64)) - (4 : Int64))), .second, .val (.long (((y1 &&& (7 : Int64)) - (4 : Int64)) + ((y1 >>> ((3 : Int32).toInt64 &&& 63)) &&& (3 : Int64)))), .second, .val (.long ((((y1 &&& (7 : Int64)) - (4 : Int64)) + ((y1 >>> ((3 : Int32).toInt64 &&& 63)) &&& (3 : Int64))) + ((y1 >>> ((5 : Int32).toInt64 &&& 63)) &&& (3 : Int64)))), .second, .val (.int (x2 + (x3 &&& (1 : Int32)))), .val (.int (x2 + ((x3 >>> ((1 : Int32) &&& 31)) &&& (1 : Int32)))), .val (.int (x2 + ((x3 >>> ((2 : Int32) &&& 31)) &&& (1 : Int32)))), .val (.ref b1), .val (.ref b5), .val (.ref b8), .val (.ref b12), .val (.ref b17), .val (.int (1 : Int32))] [(.int x1), (.int (x1 >>> ((2 : Int32) &&& 31))), (.ref b1), (.ref b17)])
    refine own_by (fun t_ k_ => XS.iconst X66.here hx rfl (hb hby at_219) k_) ?_
    show own_Go p e below _ T66 (mkF m 220 #[.val (.int x1), .val (.long y1), .second, .val (.long y2), .second, .val (.long y3), .second, .val (.int x2), .val (.int x3), .val (.int (2 : Int32)), .val (.long ((y1 &&& (7 : Int64)) - (4 : Int64))), .second, .val (.long (((y1 &&& (7 : Int64)) - (4 : Int64)) + ((y1 >>> ((3 : Int32).toInt64 &&& 63)) &&& (3 : Int64)))), .second, .val (.long ((((y1 &&& (7 : Int64)) - (4 : Int64)) + ((y1 >>> ((3 : Int32).toInt64 &&& 63)) &&& (3 : Int64))) + ((y1 >>> ((5 : Int32).toInt64 &&& 63)) &&& (3 : Int64)))), .second, .val (.int (x2 + (x3 &&& (1 : Int32)))), .val (.int (x2 + ((x3 >>> ((1 : Int32) &&& 31)) &&& (1 : Int32)))), .val (.int (x2 + ((x3 >>> ((2 : Int32) &&& 31)) &&& (1 : Int32)))), .val (.ref b1), .val (.ref b5), .val (.ref b8), .val (.ref b12), .val (.ref b17), .val (.int (1 : Int32))] [(.int (4 : Int32)), (.int x1), (.int (x1 >>> ((2 : Int32) &&& 31))), (.ref b1), (.ref b17)])
    refine own_by (fun t_ k_ => XT.ishr X66.here hx rfl (hb hby at_220) rfl k_) ?_
    show own_Go p e below _ T66 (mkF m 221 #[.val (.int x1), .val (.long y1), .second, .val (.long y2), .second, .val (.long y3), .second, .val (.int x2), .val (.int x3), .val (.int (2 : Int32)), .val (.long ((y1 &&& (7 : Int64)) - (4 : Int64))), .second, .val (.long (((y1 &&& (7 : Int64)) - (4 : Int64)) + ((y1 >>> ((3 : Int32).toInt64 &&& 63)) &&& (3 : Int64)))), .second, .val (.long ((((y1 &&& (7 : Int64)) - (4 : Int64)) + ((y1 >>> ((3 : Int32).toInt64 &&& 63)) &&& (3 : Int64))) + ((y1 >>> ((5 : Int32).toInt64 &&& 63)) &&& (3 : Int64)))), .second, .val (.int (x2 + (x3 &&& (1 : Int32)))), .val (.int (x2 + ((x3 >>> ((1 : Int32) &&& 31)) &&& (1 : Int32)))), .val (.int (x2 + ((x3 >>> ((2 : Int32) &&& 31)) &&& (1 : Int32)))), .val (.ref b1), .val (.ref b5), .val (.ref b8), .val (.ref b12), .val (.ref b17), .val (.int (1 : Int32))] [(.int (x1 >>> ((4 : Int32) &&& 31))), (.int (x1 >>> ((2 : Int32) &&& 31))), (.ref b1), (.ref b17)])
    refine own_by (fun t_ k_ => XT.lloadN X66.here hx rfl (hb hby at_221) rfl k_) ?_
    show own_Go p e below _ T66 (mkF m 222 #[.val (.int x1), .val (.long y1), .second, .val (.long y2), .second, .val (.long y3), .second, .val (.int x2), .val (.int x3), .val (.int (2 : Int32)), .val (.long ((y1 &&& (7 : Int64)) - (4 : Int64))), .second, .val (.long (((y1 &&& (7 : Int64)) - (4 : Int64)) + ((y1 >>> ((3 : Int32).toInt64 &&& 63)) &&& (3 : Int64)))), .second, .val (.long ((((y1 &&& (7 : Int64)) - (4 : Int64)) + ((y1 >>> ((3 : Int32).toInt64 &&& 63)) &&& (3 : Int64))) + ((y1 >>> ((5 : Int32).toInt64 &&& 63)) &&& (3 : Int64)))), .second, .val (.int (x2 + (x3 &&& (1 : Int32)))), .val (.int (x2 + ((x3 >>> ((1 : Int32) &&& 31)) &&& (1 : Int32)))), .val (.int (x2 + ((x3 >>> ((2 : Int32) &&& 31)) &&& (1 : Int32)))), .val (.ref b1), .val (.ref b5), .val (.ref b8), .val (.ref b12), .val (.ref b17), .val (.int (1 : Int32))] [(.long y2), (.int (x1 >>> ((4 : Int32) &&& 31))), (.int (x1 >>> ((2 : Int32) &&& 31))), (.ref b1), (.ref b17)])
    refine own_callS (W := 3) X66 hx hZ (y := (⟨"com/example/hedgewalk/hedgewalk/eval/GoalQueueHasOpenPinLaw", "limit", "(IJ)J"⟩ : MethodName)) hown (own_w hw 76 rfl) (own_w hw 77 rfl) (own_w hw 78 rfl) (own_w hw 79 rfl) (by decide) (by rw [hml]; rfl) (argsL := [(.int (x1 >>> ((4 : Int32) &&& 31))), (.long y2)]) pd_3 rfl (rm10 l Z a0 hw [] (x1 >>> ((4 : Int32) &&& 31)) y2 T64.heap n0 sz65_) (by decide) (by decide) (Nat.le_of_eq rfl) (by decide) (by decide) (rest := [(.int (x1 >>> ((2 : Int32) &&& 31))), (.ref b1), (.ref b17)]) e66 rfl (hb hby at_222) ?_
    intro v67 T67 L67 X67 hQ67
    obtain ⟨z67, rfl, N67q, e67⟩ := hQ67
    have N67 := Fr.app N66 N67q
    show own_Go p e below _ T67 (mkF m 225 #[.val (.int x1), .val (.long y1), .second, .val (.long y2), .second, .val (.long y3), .second, .val (.int x2), .val (.int x3), .val (.int (2 : Int32)), .val (.long ((y1 &&& (7 : Int64)) - (4 : Int64))), .second, .val (.long (((y1 &&& (7 : Int64)) - (4 : Int64)) + ((y1 >>> ((3 : Int32).toInt64 &&& 63)) &&& (3 : Int64)))), .second, .val (.long ((((y1 &&& (7 : Int64)) - (4 : Int64)) + ((y1 >>> ((3 : Int32).toInt64 &&& 63)) &&& (3 : Int64))) + ((y1 >>> ((5 : Int32).toInt64 &&& 63)) &&& (3 : Int64)))), .second, .val (.int (x2 + (x3 &&& (1 : Int32)))), .val (.int (x2 + ((x3 >>> ((1 : Int32) &&& 31)) &&& (1 : Int32)))), .val (.int (x2 + ((x3 >>> ((2 : Int32) &&& 31)) &&& (1 : Int32)))), .val (.ref b1), .val (.ref b5), .val (.ref b8), .val (.ref b12), .val (.ref b17), .val (.int (1 : Int32))] [(.long z67), (.int (x1 >>> ((2 : Int32) &&& 31))), (.ref b1), (.ref b17)])
    refine own_by (fun t_ k_ => XS.iload X67.here hx rfl (hb hby at_225) rfl k_) ?_
    show own_Go p e below _ T67 (mkF m 227 #[.val (.int x1), .val (.long y1), .second, .val (.long y2), .second, .val (.long y3), .second, .val (.int x2), .val (.int x3), .val (.int (2 : Int32)), .val (.long ((y1 &&& (7 : Int64)) - (4 : Int64))), .second, .val (.long (((y1 &&& (7 : Int64)) - (4 : Int64)) + ((y1 >>> ((3 : Int32).toInt64 &&& 63)) &&& (3 : Int64)))), .second, .val (.long ((((y1 &&& (7 : Int64)) - (4 : Int64)) + ((y1 >>> ((3 : Int32).toInt64 &&& 63)) &&& (3 : Int64))) + ((y1 >>> ((5 : Int32).toInt64 &&& 63)) &&& (3 : Int64)))), .second, .val (.int (x2 + (x3 &&& (1 : Int32)))), .val (.int (x2 + ((x3 >>> ((1 : Int32) &&& 31)) &&& (1 : Int32)))), .val (.int (x2 + ((x3 >>> ((2 : Int32) &&& 31)) &&& (1 : Int32)))), .val (.ref b1), .val (.ref b5), .val (.ref b8), .val (.ref b12), .val (.ref b17), .val (.int (1 : Int32))] [(.int x2), (.long z67), (.int (x1 >>> ((2 : Int32) &&& 31))), (.ref b1), (.ref b17)])
    refine own_by (fun t_ k_ => XS.iload X67.here hx rfl (hb hby at_227) rfl k_) ?_
    show own_Go p e below _ T67 (mkF m 229 #[.val (.int x1), .val (.long y1), .second, .val (.long y2), .second, .val (.long y3), .second, .val (.int x2), .val (.int x3), .val (.int (2 : Int32)), .val (.long ((y1 &&& (7 : Int64)) - (4 : Int64))), .second, .val (.long (((y1 &&& (7 : Int64)) - (4 : Int64)) + ((y1 >>> ((3 : Int32).toInt64 &&& 63)) &&& (3 : Int64)))), .second, .val (.long ((((y1 &&& (7 : Int64)) - (4 : Int64)) + ((y1 >>> ((3 : Int32).toInt64 &&& 63)) &&& (3 : Int64))) + ((y1 >>> ((5 : Int32).toInt64 &&& 63)) &&& (3 : Int64)))), .second, .val (.int (x2 + (x3 &&& (1 : Int32)))), .val (.int (x2 + ((x3 >>> ((1 : Int32) &&& 31)) &&& (1 : Int32)))), .val (.int (x2 + ((x3 >>> ((2 : Int32) &&& 31)) &&& (1 : Int32)))), .val (.ref b1), .val (.ref b5), .val (.ref b8), .val (.ref b12), .val (.ref b17), .val (.int (1 : Int32))] [(.int x3), (.int x2), (.long z67), (.int (x1 >>> ((2 : Int32) &&& 31))), (.ref b1), (.ref b17)])
    refine own_by (fun t_ k_ => XS.iconst X67.here hx rfl (hb hby at_229) k_) ?_
    show own_Go p e below _ T67 (mkF m 230 #[.val (.int x1), .val (.long y1), .second, .val (.long y2), .second, .val (.long y3), .second, .val (.int x2), .val (.int x3), .val (.int (2 : Int32)), .val (.long ((y1 &&& (7 : Int64)) - (4 : Int64))), .second, .val (.long (((y1 &&& (7 : Int64)) - (4 : Int64)) + ((y1 >>> ((3 : Int32).toInt64 &&& 63)) &&& (3 : Int64)))), .second, .val (.long ((((y1 &&& (7 : Int64)) - (4 : Int64)) + ((y1 >>> ((3 : Int32).toInt64 &&& 63)) &&& (3 : Int64))) + ((y1 >>> ((5 : Int32).toInt64 &&& 63)) &&& (3 : Int64)))), .second, .val (.int (x2 + (x3 &&& (1 : Int32)))), .val (.int (x2 + ((x3 >>> ((1 : Int32) &&& 31)) &&& (1 : Int32)))), .val (.int (x2 + ((x3 >>> ((2 : Int32) &&& 31)) &&& (1 : Int32)))), .val (.ref b1), .val (.ref b5), .val (.ref b8), .val (.ref b12), .val (.ref b17), .val (.int (1 : Int32))] [(.int (4 : Int32)), (.int x3), (.int x2), (.long z67), (.int (x1 >>> ((2 : Int32) &&& 31))), (.ref b1), (.ref b17)])
    refine own_by (fun t_ k_ => XT.ishr X67.here hx rfl (hb hby at_230) rfl k_) ?_
    show own_Go p e below _ T67 (mkF m 231 #[.val (.int x1), .val (.long y1), .second, .val (.long y2), .second, .val (.long y3), .second, .val (.int x2), .val (.int x3), .val (.int (2 : Int32)), .val (.long ((y1 &&& (7 : Int64)) - (4 : Int64))), .second, .val (.long (((y1 &&& (7 : Int64)) - (4 : Int64)) + ((y1 >>> ((3 : Int32).toInt64 &&& 63)) &&& (3 : Int64)))), .second, .val (.long ((((y1 &&& (7 : Int64)) - (4 : Int64)) + ((y1 >>> ((3 : Int32).toInt64 &&& 63)) &&& (3 : Int64))) + ((y1 >>> ((5 : Int32).toInt64 &&& 63)) &&& (3 : Int64)))), .second, .val (.int (x2 + (x3 &&& (1 : Int32)))), .val (.int (x2 + ((x3 >>> ((1 : Int32) &&& 31)) &&& (1 : Int32)))), .val (.int (x2 + ((x3 >>> ((2 : Int32) &&& 31)) &&& (1 : Int32)))), .val (.ref b1), .val (.ref b5), .val (.ref b8), .val (.ref b12), .val (.ref b17), .val (.int (1 : Int32))] [(.int (x3 >>> ((4 : Int32) &&& 31))), (.int x2), (.long z67), (.int (x1 >>> ((2 : Int32) &&& 31))), (.ref b1), (.ref b17)])
    refine own_by (fun t_ k_ => XS.iconst X67.here hx rfl (hb hby at_231) k_) ?_
    show own_Go p e below _ T67 (mkF m 232 #[.val (.int x1), .val (.long y1), .second, .val (.long y2), .second, .val (.long y3), .second, .val (.int x2), .val (.int x3), .val (.int (2 : Int32)), .val (.long ((y1 &&& (7 : Int64)) - (4 : Int64))), .second, .val (.long (((y1 &&& (7 : Int64)) - (4 : Int64)) + ((y1 >>> ((3 : Int32).toInt64 &&& 63)) &&& (3 : Int64)))), .second, .val (.long ((((y1 &&& (7 : Int64)) - (4 : Int64)) + ((y1 >>> ((3 : Int32).toInt64 &&& 63)) &&& (3 : Int64))) + ((y1 >>> ((5 : Int32).toInt64 &&& 63)) &&& (3 : Int64)))), .second, .val (.int (x2 + (x3 &&& (1 : Int32)))), .val (.int (x2 + ((x3 >>> ((1 : Int32) &&& 31)) &&& (1 : Int32)))), .val (.int (x2 + ((x3 >>> ((2 : Int32) &&& 31)) &&& (1 : Int32)))), .val (.ref b1), .val (.ref b5), .val (.ref b8), .val (.ref b12), .val (.ref b17), .val (.int (1 : Int32))] [(.int (1 : Int32)), (.int (x3 >>> ((4 : Int32) &&& 31))), (.int x2), (.long z67), (.int (x1 >>> ((2 : Int32) &&& 31))), (.ref b1), (.ref b17)])
    refine own_by (fun t_ k_ => XS.iand X67.here hx rfl (hb hby at_232) rfl k_) ?_
    show own_Go p e below _ T67 (mkF m 233 #[.val (.int x1), .val (.long y1), .second, .val (.long y2), .second, .val (.long y3), .second, .val (.int x2), .val (.int x3), .val (.int (2 : Int32)), .val (.long ((y1 &&& (7 : Int64)) - (4 : Int64))), .second, .val (.long (((y1 &&& (7 : Int64)) - (4 : Int64)) + ((y1 >>> ((3 : Int32).toInt64 &&& 63)) &&& (3 : Int64)))), .second, .val (.long ((((y1 &&& (7 : Int64)) - (4 : Int64)) + ((y1 >>> ((3 : Int32).toInt64 &&& 63)) &&& (3 : Int64))) + ((y1 >>> ((5 : Int32).toInt64 &&& 63)) &&& (3 : Int64)))), .second, .val (.int (x2 + (x3 &&& (1 : Int32)))), .val (.int (x2 + ((x3 >>> ((1 : Int32) &&& 31)) &&& (1 : Int32)))), .val (.int (x2 + ((x3 >>> ((2 : Int32) &&& 31)) &&& (1 : Int32)))), .val (.ref b1), .val (.ref b5), .val (.ref b8), .val (.ref b12), .val (.ref b17), .val (.int (1 : Int32))] [(.int ((x3 >>> ((4 : Int32) &&& 31)) &&& (1 : Int32))), (.int x2), (.long z67), (.int (x1 >>> ((2 : Int32) &&& 31))), (.ref b1), (.ref b17)])
    refine own_by (fun t_ k_ => XS.iadd X67.here hx rfl (hb hby at_233) rfl k_) ?_
    show own_Go p e below _ T67 (mkF m 234 #[.val (.int x1), .val (.long y1), .second, .val (.long y2), .second, .val (.long y3), .second, .val (.int x2), .val (.int x3), .val (.int (2 : Int32)), .val (.long ((y1 &&& (7 : Int64)) - (4 : Int64))), .second, .val (.long (((y1 &&& (7 : Int64)) - (4 : Int64)) + ((y1 >>> ((3 : Int32).toInt64 &&& 63)) &&& (3 : Int64)))), .second, .val (.long ((((y1 &&& (7 : Int64)) - (4 : Int64)) + ((y1 >>> ((3 : Int32).toInt64 &&& 63)) &&& (3 : Int64))) + ((y1 >>> ((5 : Int32).toInt64 &&& 63)) &&& (3 : Int64)))), .second, .val (.int (x2 + (x3 &&& (1 : Int32)))), .val (.int (x2 + ((x3 >>> ((1 : Int32) &&& 31)) &&& (1 : Int32)))), .val (.int (x2 + ((x3 >>> ((2 : Int32) &&& 31)) &&& (1 : Int32)))), .val (.ref b1), .val (.ref b5), .val (.ref b8), .val (.ref b12), .val (.ref b17), .val (.int (1 : Int32))] [(.int (x2 + ((x3 >>> ((4 : Int32) &&& 31)) &&& (1 : Int32)))), (.long z67), (.int (x1 >>> ((2 : Int32) &&& 31))), (.ref b1), (.ref b17)])
    refine own_callS (W := 0) X67 hx hZ (y := (⟨"com/example/hedgewalk/hedgewalk/eval/GoalQueueHasOpenPinLaw", "step", "(Lcom/example/hedgewalk/hedgewalk/eval/GoalQueue;Lcom/example/hedgewalk/hedgewalk/eval/Agenda;IJI)V"⟩ : MethodName)) hown (own_w hw 81 rfl) (own_w hw 82 rfl) (own_w hw 78 rfl) (own_w hw 83 rfl) (by decide) (by rw [hml]; rfl) (argsL := [(.ref b17), (.ref b1), (.int (x1 >>> ((2 : Int32) &&& 31))), (.long z67), (.int (x2 + ((x3 >>> ((4 : Int32) &&& 31)) &&& (1 : Int32))))]) pd_4 rfl (rm11 l Z a0 hw [] b17 b1 (x1 >>> ((2 : Int32) &&& 31)) z67 (x2 + ((x3 >>> ((4 : Int32) &&& 31)) &&& (1 : Int32))) aH aF bk bh bg ([b5, b8, b12] : List Addr) ([b5, b8] : List Addr) ([b5, b8] : List Addr) ([b12] : List Addr) 2 0 T64.heap n0 sz65_ HW65_) (by decide) (by decide) (Nat.le_of_eq rfl) (by decide) (by decide) (rest := []) e67 rfl (hb hby at_234) ?_
    intro v68 T68 L68 X68 hQ68
    obtain ⟨O68, s68, f68, rfl, N68q, HX68⟩ := hQ68
    have N68 := Fr.app N67 N68q
    have HW69_ : own_W Z T68.heap n0 aH aF b17 bk bh bg b1 ([b5, b8, b12] : List Addr) O68 ([b5, b8] : List Addr) ([b12] : List Addr) s68 f68 := HX68
    have Eq69 := HW69_.exa
    have sz69_ := HW69_.sz
    show own_Go p e below _ T68 (mkF m 237 #[.val (.int x1), .val (.long y1), .second, .val (.long y2), .second, .val (.long y3), .second, .val (.int x2), .val (.int x3), .val (.int (2 : Int32)), .val (.long ((y1 &&& (7 : Int64)) - (4 : Int64))), .second, .val (.long (((y1 &&& (7 : Int64)) - (4 : Int64)) + ((y1 >>> ((3 : Int32).toInt64 &&& 63)) &&& (3 : Int64)))), .second, .val (.long ((((y1 &&& (7 : Int64)) - (4 : Int64)) + ((y1 >>> ((3 : Int32).toInt64 &&& 63)) &&& (3 : Int64))) + ((y1 >>> ((5 : Int32).toInt64 &&& 63)) &&& (3 : Int64)))), .second, .val (.int (x2 + (x3 &&& (1 : Int32)))), .val (.int (x2 + ((x3 >>> ((1 : Int32) &&& 31)) &&& (1 : Int32)))), .val (.int (x2 + ((x3 >>> ((2 : Int32) &&& 31)) &&& (1 : Int32)))), .val (.ref b1), .val (.ref b5), .val (.ref b8), .val (.ref b12), .val (.ref b17), .val (.int (1 : Int32))] [])
    refine own_by (fun t_ k_ => XS.iload X68.here hx rfl (hb hby at_237) rfl k_) ?_
    show own_Go p e below _ T68 (mkF m 239 #[.val (.int x1), .val (.long y1), .second, .val (.long y2), .second, .val (.long y3), .second, .val (.int x2), .val (.int x3), .val (.int (2 : Int32)), .val (.long ((y1 &&& (7 : Int64)) - (4 : Int64))), .second, .val (.long (((y1 &&& (7 : Int64)) - (4 : Int64)) + ((y1 >>> ((3 : Int32).toInt64 &&& 63)) &&& (3 : Int64)))), .second, .val (.long ((((y1 &&& (7 : Int64)) - (4 : Int64)) + ((y1 >>> ((3 : Int32).toInt64 &&& 63)) &&& (3 : Int64))) + ((y1 >>> ((5 : Int32).toInt64 &&& 63)) &&& (3 : Int64)))), .second, .val (.int (x2 + (x3 &&& (1 : Int32)))), .val (.int (x2 + ((x3 >>> ((1 : Int32) &&& 31)) &&& (1 : Int32)))), .val (.int (x2 + ((x3 >>> ((2 : Int32) &&& 31)) &&& (1 : Int32)))), .val (.ref b1), .val (.ref b5), .val (.ref b8), .val (.ref b12), .val (.ref b17), .val (.int (1 : Int32))] [(.int (1 : Int32))])
    refine own_if X68 hx 265 (hb hby at_239) (by decide) (by decide) (fun hc => absurd (show ¬ (1 : Int32) = (0 : Int32) from by decide) (by first | exact hc | exact not_not_intro hc)) (fun _ => ?_)
    show own_Go p e below _ T68 (mkF m 242 #[.val (.int x1), .val (.long y1), .second, .val (.long y2), .second, .val (.long y3), .second, .val (.int x2), .val (.int x3), .val (.int (2 : Int32)), .val (.long ((y1 &&& (7 : Int64)) - (4 : Int64))), .second, .val (.long (((y1 &&& (7 : Int64)) - (4 : Int64)) + ((y1 >>> ((3 : Int32).toInt64 &&& 63)) &&& (3 : Int64)))), .second, .val (.long ((((y1 &&& (7 : Int64)) - (4 : Int64)) + ((y1 >>> ((3 : Int32).toInt64 &&& 63)) &&& (3 : Int64))) + ((y1 >>> ((5 : Int32).toInt64 &&& 63)) &&& (3 : Int64)))), .second, .val (.int (x2 + (x3 &&& (1 : Int32)))), .val (.int (x2 + ((x3 >>> ((1 : Int32) &&& 31)) &&& (1 : Int32)))), .val (.int (x2 + ((x3 >>> ((2 : Int32) &&& 31)) &&& (1 : Int32)))), .val (.ref b1), .val (.ref b5), .val (.ref b8), .val (.ref b12), .val (.ref b17), .val (.int (1 : Int32))] [])
    refine own_by (fun t_ k_ => XS.aload X68.here hx rfl (hb hby at_242) rfl rfl k_) ?_
    show own_Go p e below _ T68 (mkF m 244 #[.val (.int x1), .val (.long y1), .second, .val (.long y2), .second, .val (.long y3), .second, .val (.int x2), .val (.int x3), .val (.int (2 : Int32)), .val (.long ((y1 &&& (7 : Int64)) - (4 : Int64))), .second, .val (.long (((y1 &&& (7 : Int64)) - (4 : Int64)) + ((y1 >>> ((3 : Int32).toInt64 &&& 63)) &&& (3 : Int64)))), .second, .val (.long ((((y1 &&& (7 : Int64)) - (4 : Int64)) + ((y1 >>> ((3 : Int32).toInt64 &&& 63)) &&& (3 : Int64))) + ((y1 >>> ((5 : Int32).toInt64 &&& 63)) &&& (3 : Int64)))), .second, .val (.int (x2 + (x3 &&& (1 : Int32)))), .val (.int (x2 + ((x3 >>> ((1 : Int32) &&& 31)) &&& (1 : Int32)))), .val (.int (x2 + ((x3 >>> ((2 : Int32) &&& 31)) &&& (1 : Int32)))), .val (.ref b1), .val (.ref b5), .val (.ref b8), .val (.ref b12), .val (.ref b17), .val (.int (1 : Int32))] [(.ref b17)])
    refine own_callV (W := 0) X68 hx hZ (y := (⟨"com/example/hedgewalk/hedgewalk/eval/GoalQueue", "hasOpen", "()Z"⟩ : MethodName)) (z := (⟨"com/example/hedgewalk/hedgewalk/eval/GoalQueue", "hasOpen", "()Z"⟩ : MethodName)) hown (own_w hw 67 rfl) (own_w hw 68 rfl) (notFace_of_selects (args := #[]) (mvT hZ (own_w hw 70 rfl))) (own_w hw 70 rfl) (own_w hw 69 rfl) (own_w hw 52 rfl) (own_w hw 71 rfl) (by decide) (by rw [hml]; rfl) (argsL := []) pd_2 rfl (a := b17) rfl Eq69 (rm9 l Z a0 hw [] b17 aH aF bk bh bg b1 ([b5, b8, b12] : List Addr) O68 ([b5, b8] : List Addr) ([b12] : List Addr) s68 f68 T68.heap n0 sz69_ HW69_) (by decide) (by decide) (Nat.le_of_eq rfl) (by decide) (by decide) (rest := []) rfl (hb hby at_244) ?_
    intro v70 T70 L70 X70 hQ70
    obtain ⟨rfl, N70q, e70⟩ := hQ70
    have N70 := Fr.app N68 N70q
    show own_Go p e below _ T70 (mkF m 247 #[.val (.int x1), .val (.long y1), .second, .val (.long y2), .second, .val (.long y3), .second, .val (.int x2), .val (.int x3), .val (.int (2 : Int32)), .val (.long ((y1 &&& (7 : Int64)) - (4 : Int64))), .second, .val (.long (((y1 &&& (7 : Int64)) - (4 : Int64)) + ((y1 >>> ((3 : Int32).toInt64 &&& 63)) &&& (3 : Int64)))), .second, .val (.long ((((y1 &&& (7 : Int64)) - (4 : Int64)) + ((y1 >>> ((3 : Int32).toInt64 &&& 63)) &&& (3 : Int64))) + ((y1 >>> ((5 : Int32).toInt64 &&& 63)) &&& (3 : Int64)))), .second, .val (.int (x2 + (x3 &&& (1 : Int32)))), .val (.int (x2 + ((x3 >>> ((1 : Int32) &&& 31)) &&& (1 : Int32)))), .val (.int (x2 + ((x3 >>> ((2 : Int32) &&& 31)) &&& (1 : Int32)))), .val (.ref b1), .val (.ref b5), .val (.ref b8), .val (.ref b12), .val (.ref b17), .val (.int (1 : Int32))] [(.int (own_h O68))])
    refine own_by (fun t_ k_ => XS.iload X70.here hx rfl (hb hby at_247) rfl k_) ?_
    show own_Go p e below _ T70 (mkF m 249 #[.val (.int x1), .val (.long y1), .second, .val (.long y2), .second, .val (.long y3), .second, .val (.int x2), .val (.int x3), .val (.int (2 : Int32)), .val (.long ((y1 &&& (7 : Int64)) - (4 : Int64))), .second, .val (.long (((y1 &&& (7 : Int64)) - (4 : Int64)) + ((y1 >>> ((3 : Int32).toInt64 &&& 63)) &&& (3 : Int64)))), .second, .val (.long ((((y1 &&& (7 : Int64)) - (4 : Int64)) + ((y1 >>> ((3 : Int32).toInt64 &&& 63)) &&& (3 : Int64))) + ((y1 >>> ((5 : Int32).toInt64 &&& 63)) &&& (3 : Int64)))), .second, .val (.int (x2 + (x3 &&& (1 : Int32)))), .val (.int (x2 + ((x3 >>> ((1 : Int32) &&& 31)) &&& (1 : Int32)))), .val (.int (x2 + ((x3 >>> ((2 : Int32) &&& 31)) &&& (1 : Int32)))), .val (.ref b1), .val (.ref b5), .val (.ref b8), .val (.ref b12), .val (.ref b17), .val (.int (1 : Int32))] [(.int (2 : Int32)), (.int (own_h O68))])
    refine own_by (fun t_ k_ => XS.aload X70.here hx rfl (hb hby at_249) rfl rfl k_) ?_
    show own_Go p e below _ T70 (mkF m 251 #[.val (.int x1), .val (.long y1), .second, .val (.long y2), .second, .val (.long y3), .second, .val (.int x2), .val (.int x3), .val (.int (2 : Int32)), .val (.long ((y1 &&& (7 : Int64)) - (4 : Int64))), .second, .val (.long (((y1 &&& (7 : Int64)) - (4 : Int64)) + ((y1 >>> ((3 : Int32).toInt64 &&& 63)) &&& (3 : Int64)))), .second, .val (.long ((((y1 &&& (7 : Int64)) - (4 : Int64)) + ((y1 >>> ((3 : Int32).toInt64 &&& 63)) &&& (3 : Int64))) + ((y1 >>> ((5 : Int32).toInt64 &&& 63)) &&& (3 : Int64)))), .second, .val (.int (x2 + (x3 &&& (1 : Int32)))), .val (.int (x2 + ((x3 >>> ((1 : Int32) &&& 31)) &&& (1 : Int32)))), .val (.int (x2 + ((x3 >>> ((2 : Int32) &&& 31)) &&& (1 : Int32)))), .val (.ref b1), .val (.ref b5), .val (.ref b8), .val (.ref b12), .val (.ref b17), .val (.int (1 : Int32))] [(.ref b5), (.int (2 : Int32)), (.int (own_h O68))])
    refine own_by (fun t_ k_ => XS.aload X70.here hx rfl (hb hby at_251) rfl rfl k_) ?_
    show own_Go p e below _ T70 (mkF m 253 #[.val (.int x1), .val (.long y1), .second, .val (.long y2), .second, .val (.long y3), .second, .val (.int x2), .val (.int x3), .val (.int (2 : Int32)), .val (.long ((y1 &&& (7 : Int64)) - (4 : Int64))), .second, .val (.long (((y1 &&& (7 : Int64)) - (4 : Int64)) + ((y1 >>> ((3 : Int32).toInt64 &&& 63)) &&& (3 : Int64)))), .second, .val (.long ((((y1 &&& (7 : Int64)) - (4 : Int64)) + ((y1 >>> ((3 : Int32).toInt64 &&& 63)) &&& (3 : Int64))) + ((y1 >>> ((5 : Int32).toInt64 &&& 63)) &&& (3 : Int64)))), .second, .val (.int (x2 + (x3 &&& (1 : Int32)))), .val (.int (x2 + ((x3 >>> ((1 : Int32) &&& 31)) &&& (1 : Int32)))), .val (.int (x2 + ((x3 >>> ((2 : Int32) &&& 31)) &&& (1 : Int32)))), .val (.ref b1), .val (.ref b5), .val (.ref b8), .val (.ref b12), .val (.ref b17), .val (.int (1 : Int32))] [(.ref b8), (.ref b5), (.int (2 : Int32)), (.int (own_h O68))])
    refine own_by (fun t_ k_ => XS.aload X70.here hx rfl (hb hby at_253) rfl rfl k_) ?_
    show own_Go p e below _ T70 (mkF m 255 #[.val (.int x1), .val (.long y1), .second, .val (.long y2), .second, .val (.long y3), .second, .val (.int x2), .val (.int x3), .val (.int (2 : Int32)), .val (.long ((y1 &&& (7 : Int64)) - (4 : Int64))), .second, .val (.long (((y1 &&& (7 : Int64)) - (4 : Int64)) + ((y1 >>> ((3 : Int32).toInt64 &&& 63)) &&& (3 : Int64)))), .second, .val (.long ((((y1 &&& (7 : Int64)) - (4 : Int64)) + ((y1 >>> ((3 : Int32).toInt64 &&& 63)) &&& (3 : Int64))) + ((y1 >>> ((5 : Int32).toInt64 &&& 63)) &&& (3 : Int64)))), .second, .val (.int (x2 + (x3 &&& (1 : Int32)))), .val (.int (x2 + ((x3 >>> ((1 : Int32) &&& 31)) &&& (1 : Int32)))), .val (.int (x2 + ((x3 >>> ((2 : Int32) &&& 31)) &&& (1 : Int32)))), .val (.ref b1), .val (.ref b5), .val (.ref b8), .val (.ref b12), .val (.ref b17), .val (.int (1 : Int32))] [(.ref b12), (.ref b8), (.ref b5), (.int (2 : Int32)), (.int (own_h O68))])
    refine own_callS (W := 1) X70 hx hZ (y := (⟨"com/example/hedgewalk/hedgewalk/eval/GoalQueueHasOpenPinLaw", "anyOpen", "(ILcom/example/hedgewalk/hedgewalk/eval/Verdict$Told;Lcom/example/hedgewalk/hedgewalk/eval/Verdict$Told;Lcom/example/hedgewalk/hedgewalk/eval/Verdict$Told;)Z"⟩ : MethodName)) hown (own_w hw 89 rfl) (own_w hw 90 rfl) (own_w hw 78 rfl) (own_w hw 91 rfl) (by decide) (by rw [hml]; rfl) (argsL := [(.int (2 : Int32)), (.ref b5), (.ref b8), (.ref b12)]) pd_6 rfl (rm13 l Z a0 hw [] (2 : Int32) b5 b8 b12 b17 aH aF bk bh bg b1 ([b5, b8, b12] : List Addr) O68 ([b5, b8] : List Addr) ([b12] : List Addr) s68 f68 T68.heap n0 sz69_ HW69_ (Or.inr (Or.inr (Or.inl ⟨rfl, rfl⟩)))) (by decide) (by decide) (Nat.le_of_eq rfl) (by decide) (by decide) (rest := [(.int (own_h O68))]) e70 rfl (hb hby at_255) ?_
    intro v71 T71 L71 X71 hQ71
    obtain ⟨rfl, N71q, e71⟩ := hQ71
    have N71 := Fr.app N70 N71q
    show own_Go p e below _ T71 (mkF m 258 #[.val (.int x1), .val (.long y1), .second, .val (.long y2), .second, .val (.long y3), .second, .val (.int x2), .val (.int x3), .val (.int (2 : Int32)), .val (.long ((y1 &&& (7 : Int64)) - (4 : Int64))), .second, .val (.long (((y1 &&& (7 : Int64)) - (4 : Int64)) + ((y1 >>> ((3 : Int32).toInt64 &&& 63)) &&& (3 : Int64)))), .second, .val (.long ((((y1 &&& (7 : Int64)) - (4 : Int64)) + ((y1 >>> ((3 : Int32).toInt64 &&& 63)) &&& (3 : Int64))) + ((y1 >>> ((5 : Int32).toInt64 &&& 63)) &&& (3 : Int64)))), .second, .val (.int (x2 + (x3 &&& (1 : Int32)))), .val (.int (x2 + ((x3 >>> ((1 : Int32) &&& 31)) &&& (1 : Int32)))), .val (.int (x2 + ((x3 >>> ((2 : Int32) &&& 31)) &&& (1 : Int32)))), .val (.ref b1), .val (.ref b5), .val (.ref b8), .val (.ref b12), .val (.ref b17), .val (.int (1 : Int32))] [(.int (own_h O68)), (.int (own_h O68))])
    refine own_icmp X71 hx 265 (hb hby at_258) (by decide) (by decide) (fun hc => absurd (show (own_h O68) = (own_h O68) from rfl) (by first | exact hc | exact not_not_intro hc)) (fun _ => ?_)
    show own_Go p e below _ T71 (mkF m 261 #[.val (.int x1), .val (.long y1), .second, .val (.long y2), .second, .val (.long y3), .second, .val (.int x2), .val (.int x3), .val (.int (2 : Int32)), .val (.long ((y1 &&& (7 : Int64)) - (4 : Int64))), .second, .val (.long (((y1 &&& (7 : Int64)) - (4 : Int64)) + ((y1 >>> ((3 : Int32).toInt64 &&& 63)) &&& (3 : Int64)))), .second, .val (.long ((((y1 &&& (7 : Int64)) - (4 : Int64)) + ((y1 >>> ((3 : Int32).toInt64 &&& 63)) &&& (3 : Int64))) + ((y1 >>> ((5 : Int32).toInt64 &&& 63)) &&& (3 : Int64)))), .second, .val (.int (x2 + (x3 &&& (1 : Int32)))), .val (.int (x2 + ((x3 >>> ((1 : Int32) &&& 31)) &&& (1 : Int32)))), .val (.int (x2 + ((x3 >>> ((2 : Int32) &&& 31)) &&& (1 : Int32)))), .val (.ref b1), .val (.ref b5), .val (.ref b8), .val (.ref b12), .val (.ref b17), .val (.int (1 : Int32))] [])
    refine own_by (fun t_ k_ => XS.iconst X71.here hx rfl (hb hby at_261) k_) ?_
    show own_Go p e below _ T71 (mkF m 262 #[.val (.int x1), .val (.long y1), .second, .val (.long y2), .second, .val (.long y3), .second, .val (.int x2), .val (.int x3), .val (.int (2 : Int32)), .val (.long ((y1 &&& (7 : Int64)) - (4 : Int64))), .second, .val (.long (((y1 &&& (7 : Int64)) - (4 : Int64)) + ((y1 >>> ((3 : Int32).toInt64 &&& 63)) &&& (3 : Int64)))), .second, .val (.long ((((y1 &&& (7 : Int64)) - (4 : Int64)) + ((y1 >>> ((3 : Int32).toInt64 &&& 63)) &&& (3 : Int64))) + ((y1 >>> ((5 : Int32).toInt64 &&& 63)) &&& (3 : Int64)))), .second, .val (.int (x2 + (x3 &&& (1 : Int32)))), .val (.int (x2 + ((x3 >>> ((1 : Int32) &&& 31)) &&& (1 : Int32)))), .val (.int (x2 + ((x3 >>> ((2 : Int32) &&& 31)) &&& (1 : Int32)))), .val (.ref b1), .val (.ref b5), .val (.ref b8), .val (.ref b12), .val (.ref b17), .val (.int (1 : Int32))] [(.int (1 : Int32))])
    refine own_by (fun t_ k_ => XS.goto X71.here hx rfl (pc0 := 262) (pc' := 266) rfl (hb hby at_262) (by decide) (by decide) k_) ?_
    show own_Go p e below _ T71 (mkF m 266 #[.val (.int x1), .val (.long y1), .second, .val (.long y2), .second, .val (.long y3), .second, .val (.int x2), .val (.int x3), .val (.int (2 : Int32)), .val (.long ((y1 &&& (7 : Int64)) - (4 : Int64))), .second, .val (.long (((y1 &&& (7 : Int64)) - (4 : Int64)) + ((y1 >>> ((3 : Int32).toInt64 &&& 63)) &&& (3 : Int64)))), .second, .val (.long ((((y1 &&& (7 : Int64)) - (4 : Int64)) + ((y1 >>> ((3 : Int32).toInt64 &&& 63)) &&& (3 : Int64))) + ((y1 >>> ((5 : Int32).toInt64 &&& 63)) &&& (3 : Int64)))), .second, .val (.int (x2 + (x3 &&& (1 : Int32)))), .val (.int (x2 + ((x3 >>> ((1 : Int32) &&& 31)) &&& (1 : Int32)))), .val (.int (x2 + ((x3 >>> ((2 : Int32) &&& 31)) &&& (1 : Int32)))), .val (.ref b1), .val (.ref b5), .val (.ref b8), .val (.ref b12), .val (.ref b17), .val (.int (1 : Int32))] [(.int (1 : Int32))])
    refine own_by (fun t_ k_ => XS.istore X71.here hx rfl (hb hby at_266) rfl (l' := #[.val (.int x1), .val (.long y1), .second, .val (.long y2), .second, .val (.long y3), .second, .val (.int x2), .val (.int x3), .val (.int (2 : Int32)), .val (.long ((y1 &&& (7 : Int64)) - (4 : Int64))), .second, .val (.long (((y1 &&& (7 : Int64)) - (4 : Int64)) + ((y1 >>> ((3 : Int32).toInt64 &&& 63)) &&& (3 : Int64)))), .second, .val (.long ((((y1 &&& (7 : Int64)) - (4 : Int64)) + ((y1 >>> ((3 : Int32).toInt64 &&& 63)) &&& (3 : Int64))) + ((y1 >>> ((5 : Int32).toInt64 &&& 63)) &&& (3 : Int64)))), .second, .val (.int (x2 + (x3 &&& (1 : Int32)))), .val (.int (x2 + ((x3 >>> ((1 : Int32) &&& 31)) &&& (1 : Int32)))), .val (.int (x2 + ((x3 >>> ((2 : Int32) &&& 31)) &&& (1 : Int32)))), .val (.ref b1), .val (.ref b5), .val (.ref b8), .val (.ref b12), .val (.ref b17), .val (.int (1 : Int32))]) rfl k_) ?_
    show own_Go p e below _ T71 (mkF m 268 #[.val (.int x1), .val (.long y1), .second, .val (.long y2), .second, .val (.long y3), .second, .val (.int x2), .val (.int x3), .val (.int (2 : Int32)), .val (.long ((y1 &&& (7 : Int64)) - (4 : Int64))), .second, .val (.long (((y1 &&& (7 : Int64)) - (4 : Int64)) + ((y1 >>> ((3 : Int32).toInt64 &&& 63)) &&& (3 : Int64)))), .second, .val (.long ((((y1 &&& (7 : Int64)) - (4 : Int64)) + ((y1 >>> ((3 : Int32).toInt64 &&& 63)) &&& (3 : Int64))) + ((y1 >>> ((5 : Int32).toInt64 &&& 63)) &&& (3 : Int64)))), .second, .val (.int (x2 + (x3 &&& (1 : Int32)))), .val (.int (x2 + ((x3 >>> ((1 : Int32) &&& 31)) &&& (1 : Int32)))), .val (.int (x2 + ((x3 >>> ((2 : Int32) &&& 31)) &&& (1 : Int32)))), .val (.ref b1), .val (.ref b5), .val (.ref b8), .val (.ref b12), .val (.ref b17), .val (.int (1 : Int32))] [])
    refine own_by (fun t_ k_ => XS.aload X71.here hx rfl (hb hby at_268) rfl rfl k_) ?_
    show own_Go p e below _ T71 (mkF m 270 #[.val (.int x1), .val (.long y1), .second, .val (.long y2), .second, .val (.long y3), .second, .val (.int x2), .val (.int x3), .val (.int (2 : Int32)), .val (.long ((y1 &&& (7 : Int64)) - (4 : Int64))), .second, .val (.long (((y1 &&& (7 : Int64)) - (4 : Int64)) + ((y1 >>> ((3 : Int32).toInt64 &&& 63)) &&& (3 : Int64)))), .second, .val (.long ((((y1 &&& (7 : Int64)) - (4 : Int64)) + ((y1 >>> ((3 : Int32).toInt64 &&& 63)) &&& (3 : Int64))) + ((y1 >>> ((5 : Int32).toInt64 &&& 63)) &&& (3 : Int64)))), .second, .val (.int (x2 + (x3 &&& (1 : Int32)))), .val (.int (x2 + ((x3 >>> ((1 : Int32) &&& 31)) &&& (1 : Int32)))), .val (.int (x2 + ((x3 >>> ((2 : Int32) &&& 31)) &&& (1 : Int32)))), .val (.ref b1), .val (.ref b5), .val (.ref b8), .val (.ref b12), .val (.ref b17), .val (.int (1 : Int32))] [(.ref b17)])
    refine own_by (fun t_ k_ => XS.aload X71.here hx rfl (hb hby at_270) rfl rfl k_) ?_
    show own_Go p e below _ T71 (mkF m 272 #[.val (.int x1), .val (.long y1), .second, .val (.long y2), .second, .val (.long y3), .second, .val (.int x2), .val (.int x3), .val (.int (2 : Int32)), .val (.long ((y1 &&& (7 : Int64)) - (4 : Int64))), .second, .val (.long (((y1 &&& (7 : Int64)) - (4 : Int64)) + ((y1 >>> ((3 : Int32).toInt64 &&& 63)) &&& (3 : Int64)))), .second, .val (.long ((((y1 &&& (7 : Int64)) - (4 : Int64)) + ((y1 >>> ((3 : Int32).toInt64 &&& 63)) &&& (3 : Int64))) + ((y1 >>> ((5 : Int32).toInt64 &&& 63)) &&& (3 : Int64)))), .second, .val (.int (x2 + (x3 &&& (1 : Int32)))), .val (.int (x2 + ((x3 >>> ((1 : Int32) &&& 31)) &&& (1 : Int32)))), .val (.int (x2 + ((x3 >>> ((2 : Int32) &&& 31)) &&& (1 : Int32)))), .val (.ref b1), .val (.ref b5), .val (.ref b8), .val (.ref b12), .val (.ref b17), .val (.int (1 : Int32))] [(.ref b1), (.ref b17)])
    refine own_by (fun t_ k_ => XS.iloadN X71.here hx rfl (hb hby at_272) rfl k_) ?_
    show own_Go p e below _ T71 (mkF m 273 #[.val (.int x1), .val (.long y1), .second, .val (.long y2), .second, .val (.long y3), .second, .val (.int x2), .val (.int x3), .val (.int (2 : Int32)), .val (.long ((y1 &&& (7 : Int64)) - (4 : Int64))), .second, .val (.long (((y1 &&& (7 : Int64)) - (4 : Int64)) + ((y1 >>> ((3 : Int32).toInt64 &&& 63)) &&& (3 : Int64)))), .second, .val (.long ((((y1 &&& (7 : Int64)) - (4 : Int64)) + ((y1 >>> ((3 : Int32).toInt64 &&& 63)) &&& (3 : Int64))) + ((y1 >>> ((5 : Int32).toInt64 &&& 63)) &&& (3 : Int64)))), .second, .val (.int (x2 + (x3 &&& (1 : Int32)))), .val (.int (x2 + ((x3 >>> ((1 : Int32) &&& 31)) &&& (1 : Int32)))), .val (.int (x2 + ((x3 >>> ((2 : Int32) &&& 31)) &&& (1 : Int32)))), .val (.ref b1), .val (.ref b5), .val (.ref b8), .val (.ref b12), .val (.ref b17), .val (.int (1 : Int32))] [(.int x1), (.ref b1), (.ref b17)])
    refine own_by (fun t_ k_ => XS.iconst X71.here hx rfl (hb hby at_273) k_) ?_
    show own_Go p e below _ T71 (mkF m 274 #[.val (.int x1), .val (.long y1), .second, .val (.long y2), .second, .val (.long y3), .second, .val (.int x2), .val (.int x3), .val (.int (2 : Int32)), .val (.long ((y1 &&& (7 : Int64)) - (4 : Int64))), .second, .val (.long (((y1 &&& (7 : Int64)) - (4 : Int64)) + ((y1 >>> ((3 : Int32).toInt64 &&& 63)) &&& (3 : Int64)))), .second, .val (.long ((((y1 &&& (7 : Int64)) - (4 : Int64)) + ((y1 >>> ((3 : Int32).toInt64 &&& 63)) &&& (3 : Int64))) + ((y1 >>> ((5 : Int32).toInt64 &&& 63)) &&& (3 : Int64)))), .second, .val (.int (x2 + (x3 &&& (1 : Int32)))), .val (.int (x2 + ((x3 >>> ((1 : Int32) &&& 31)) &&& (1 : Int32)))), .val (.int (x2 + ((x3 >>> ((2 : Int32) &&& 31)) &&& (1 : Int32)))), .val (.ref b1), .val (.ref b5), .val (.ref b8), .val (.ref b12), .val (.ref b17), .val (.int (1 : Int32))] [(.int (3 : Int32)), (.int x1), (.ref b1), (.ref b17)])
    refine own_by (fun t_ k_ => XT.ishr X71.here hx rfl (hb hby at_274) rfl k_) ?_
    show own_Go p e below _ T71 (mkF m 275 #[.val (.int x1), .val (.long y1), .second, .val (.long y2), .second, .val (.long y3), .second, .val (.int x2), .val (.int x3), .val (.int (2 : Int32)), .val (.long ((y1 &&& (7 : Int64)) - (4 : Int64))), .second, .val (.long (((y1 &&& (7 : Int64)) - (4 : Int64)) + ((y1 >>> ((3 : Int32).toInt64 &&& 63)) &&& (3 : Int64)))), .second, .val (.long ((((y1 &&& (7 : Int64)) - (4 : Int64)) + ((y1 >>> ((3 : Int32).toInt64 &&& 63)) &&& (3 : Int64))) + ((y1 >>> ((5 : Int32).toInt64 &&& 63)) &&& (3 : Int64)))), .second, .val (.int (x2 + (x3 &&& (1 : Int32)))), .val (.int (x2 + ((x3 >>> ((1 : Int32) &&& 31)) &&& (1 : Int32)))), .val (.int (x2 + ((x3 >>> ((2 : Int32) &&& 31)) &&& (1 : Int32)))), .val (.ref b1), .val (.ref b5), .val (.ref b8), .val (.ref b12), .val (.ref b17), .val (.int (1 : Int32))] [(.int (x1 >>> ((3 : Int32) &&& 31))), (.ref b1), (.ref b17)])
    refine own_by (fun t_ k_ => XS.iloadN X71.here hx rfl (hb hby at_275) rfl k_) ?_
    show own_Go p e below _ T71 (mkF m 276 #[.val (.int x1), .val (.long y1), .second, .val (.long y2), .second, .val (.long y3), .second, .val (.int x2), .val (.int x3), .val (.int (2 : Int32)), .val (.long ((y1 &&& (7 : Int64)) - (4 : Int64))), .second, .val (.long (((y1 &&& (7 : Int64)) - (4 : Int64)) + ((y1 >>> ((3 : Int32).toInt64 &&& 63)) &&& (3 : Int64)))), .second, .val (.long ((((y1 &&& (7 : Int64)) - (4 : Int64)) + ((y1 >>> ((3 : Int32).toInt64 &&& 63)) &&& (3 : Int64))) + ((y1 >>> ((5 : Int32).toInt64 &&& 63)) &&& (3 : Int64)))), .second, .val (.int (x2 + (x3 &&& (1 : Int32)))), .val (.int (x2 + ((x3 >>> ((1 : Int32) &&& 31)) &&& (1 : Int32)))), .val (.int (x2 + ((x3 >>> ((2 : Int32) &&& 31)) &&& (1 : Int32)))), .val (.ref b1), .val (.ref b5), .val (.ref b8), .val (.ref b12), .val (.ref b17), .val (.int (1 : Int32))] [(.int x1), (.int (x1 >>> ((3 : Int32) &&& 31))), (.ref b1), (.ref b17)])
    refine own_by (fun t_ k_ => XS.iconst X71.here hx rfl (hb hby at_276) k_) ?_
    show own_Go p e below _ T71 (mkF m 277 #[.val (.int x1), .val (.long y1), .second, .val (.long y2), .second, .val (.long y3), .second, .val (.int x2), .val (.int x3), .val (.int (2 : Int32)), .val (.long ((y1 &&& (7 : Int64)) - (4 : Int64))), .second, .val (.long (((y1 &&& (7 : Int64)) - (4 : Int64)) + ((y1 >>> ((3 : Int32).toInt64 &&& 63)) &&& (3 : Int64)))), .second, .val (.long ((((y1 &&& (7 : Int64)) - (4 : Int64)) + ((y1 >>> ((3 : Int32).toInt64 &&& 63)) &&& (3 : Int64))) + ((y1 >>> ((5 : Int32).toInt64 &&& 63)) &&& (3 : Int64)))), .second, .val (.int (x2 + (x3 &&& (1 : Int32)))), .val (.int (x2 + ((x3 >>> ((1 : Int32) &&& 31)) &&& (1 : Int32)))), .val (.int (x2 + ((x3 >>> ((2 : Int32) &&& 31)) &&& (1 : Int32)))), .val (.ref b1), .val (.ref b5), .val (.ref b8), .val (.ref b12), .val (.ref b17), .val (.int (1 : Int32))] [(.int (5 : Int32)), (.int x1), (.int (x1 >>> ((3 : Int32) &&& 31))), (.ref b1), (.ref b17)])
    refine own_by (fun t_ k_ => XT.ishr X71.here hx rfl (hb hby at_277) rfl k_) ?_
    show own_Go p e below _ T71 (mkF m 278 #[.val (.int x1), .val (.long y1), .second, .val (.long y2), .second, .val (.long y3), .second, .val (.int x2), .val (.int x3), .val (.int (2 : Int32)), .val (.long ((y1 &&& (7 : Int64)) - (4 : Int64))), .second, .val (.long (((y1 &&& (7 : Int64)) - (4 : Int64)) + ((y1 >>> ((3 : Int32).toInt64 &&& 63)) &&& (3 : Int64)))), .second, .val (.long ((((y1 &&& (7 : Int64)) - (4 : Int64)) + ((y1 >>> ((3 : Int32).toInt64 &&& 63)) &&& (3 : Int64))) + ((y1 >>> ((5 : Int32).toInt64 &&& 63)) &&& (3 : Int64)))), .second, .val (.int (x2 + (x3 &&& (1 : Int32)))), .val (.int (x2 + ((x3 >>> ((1 : Int32) &&& 31)) &&& (1 : Int32)))), .val (.int (x2 + ((x3 >>> ((2 : Int32) &&& 31)) &&& (1 : Int32)))), .val (.ref b1), .val (.ref b5), .val (.ref b8), .val (.ref b12), .val (.ref b17), .val (.int (1 : Int32))] [(.int (x1 >>> ((5 : Int32) &&& 31))), (.int (x1 >>> ((3 : Int32) &&& 31))), (.ref b1), (.ref b17)])
    refine own_by (fun t_ k_ => XT.lload X71.here hx rfl (hb hby at_278) rfl k_) ?_
    show own_Go p e below _ T71 (mkF m 280 #[.val (.int x1), .val (.long y1), .second, .val (.long y2), .second, .val (.long y3), .second, .val (.int x2), .val (.int x3), .val (.int (2 : Int32)), .val (.long ((y1 &&& (7 : Int64)) - (4 : Int64))), .second, .val (.long (((y1 &&& (7 : Int64)) - (4 : Int64)) + ((y1 >>> ((3 : Int32).toInt64 &&& 63)) &&& (3 : Int64)))), .second, .val (.long ((((y1 &&& (7 : Int64)) - (4 : Int64)) + ((y1 >>> ((3 : Int32).toInt64 &&& 63)) &&& (3 : Int64))) + ((y1 >>> ((5 : Int32).toInt64 &&& 63)) &&& (3 : Int64)))), .second, .val (.int (x2 + (x3 &&& (1 : Int32)))), .val (.int (x2 + ((x3 >>> ((1 : Int32) &&& 31)) &&& (1 : Int32)))), .val (.int (x2 + ((x3 >>> ((2 : Int32) &&& 31)) &&& (1 : Int32)))), .val (.ref b1), .val (.ref b5), .val (.ref b8), .val (.ref b12), .val (.ref b17), .val (.int (1 : Int32))] [(.long y3), (.int (x1 >>> ((5 : Int32) &&& 31))), (.int (x1 >>> ((3 : Int32) &&& 31))), (.ref b1), (.ref b17)])
    refine own_callS (W := 3) X71 hx hZ (y := (⟨"com/example/hedgewalk/hedgewalk/eval/GoalQueueHasOpenPinLaw", "limit", "(IJ)J"⟩ : MethodName)) hown (own_w hw 76 rfl) (own_w hw 77 rfl) (own_w hw 78 rfl) (own_w hw 79 rfl) (by decide) (by rw [hml]; rfl) (argsL := [(.int (x1 >>> ((5 : Int32) &&& 31))), (.long y3)]) pd_3 rfl (rm10 l Z a0 hw [] (x1 >>> ((5 : Int32) &&& 31)) y3 T68.heap n0 sz69_) (by decide) (by decide) (Nat.le_of_eq rfl) (by decide) (by decide) (rest := [(.int (x1 >>> ((3 : Int32) &&& 31))), (.ref b1), (.ref b17)]) e71 rfl (hb hby at_280) ?_
    intro v72 T72 L72 X72 hQ72
    obtain ⟨z72, rfl, N72q, e72⟩ := hQ72
    have N72 := Fr.app N71 N72q
    show own_Go p e below _ T72 (mkF m 283 #[.val (.int x1), .val (.long y1), .second, .val (.long y2), .second, .val (.long y3), .second, .val (.int x2), .val (.int x3), .val (.int (2 : Int32)), .val (.long ((y1 &&& (7 : Int64)) - (4 : Int64))), .second, .val (.long (((y1 &&& (7 : Int64)) - (4 : Int64)) + ((y1 >>> ((3 : Int32).toInt64 &&& 63)) &&& (3 : Int64)))), .second, .val (.long ((((y1 &&& (7 : Int64)) - (4 : Int64)) + ((y1 >>> ((3 : Int32).toInt64 &&& 63)) &&& (3 : Int64))) + ((y1 >>> ((5 : Int32).toInt64 &&& 63)) &&& (3 : Int64)))), .second, .val (.int (x2 + (x3 &&& (1 : Int32)))), .val (.int (x2 + ((x3 >>> ((1 : Int32) &&& 31)) &&& (1 : Int32)))), .val (.int (x2 + ((x3 >>> ((2 : Int32) &&& 31)) &&& (1 : Int32)))), .val (.ref b1), .val (.ref b5), .val (.ref b8), .val (.ref b12), .val (.ref b17), .val (.int (1 : Int32))] [(.long z72), (.int (x1 >>> ((3 : Int32) &&& 31))), (.ref b1), (.ref b17)])
    refine own_by (fun t_ k_ => XS.iload X72.here hx rfl (hb hby at_283) rfl k_) ?_
    show own_Go p e below _ T72 (mkF m 285 #[.val (.int x1), .val (.long y1), .second, .val (.long y2), .second, .val (.long y3), .second, .val (.int x2), .val (.int x3), .val (.int (2 : Int32)), .val (.long ((y1 &&& (7 : Int64)) - (4 : Int64))), .second, .val (.long (((y1 &&& (7 : Int64)) - (4 : Int64)) + ((y1 >>> ((3 : Int32).toInt64 &&& 63)) &&& (3 : Int64)))), .second, .val (.long ((((y1 &&& (7 : Int64)) - (4 : Int64)) + ((y1 >>> ((3 : Int32).toInt64 &&& 63)) &&& (3 : Int64))) + ((y1 >>> ((5 : Int32).toInt64 &&& 63)) &&& (3 : Int64)))), .second, .val (.int (x2 + (x3 &&& (1 : Int32)))), .val (.int (x2 + ((x3 >>> ((1 : Int32) &&& 31)) &&& (1 : Int32)))), .val (.int (x2 + ((x3 >>> ((2 : Int32) &&& 31)) &&& (1 : Int32)))), .val (.ref b1), .val (.ref b5), .val (.ref b8), .val (.ref b12), .val (.ref b17), .val (.int (1 : Int32))] [(.int x2), (.long z72), (.int (x1 >>> ((3 : Int32) &&& 31))), (.ref b1), (.ref b17)])
    refine own_by (fun t_ k_ => XS.iload X72.here hx rfl (hb hby at_285) rfl k_) ?_
    show own_Go p e below _ T72 (mkF m 287 #[.val (.int x1), .val (.long y1), .second, .val (.long y2), .second, .val (.long y3), .second, .val (.int x2), .val (.int x3), .val (.int (2 : Int32)), .val (.long ((y1 &&& (7 : Int64)) - (4 : Int64))), .second, .val (.long (((y1 &&& (7 : Int64)) - (4 : Int64)) + ((y1 >>> ((3 : Int32).toInt64 &&& 63)) &&& (3 : Int64)))), .second, .val (.long ((((y1 &&& (7 : Int64)) - (4 : Int64)) + ((y1 >>> ((3 : Int32).toInt64 &&& 63)) &&& (3 : Int64))) + ((y1 >>> ((5 : Int32).toInt64 &&& 63)) &&& (3 : Int64)))), .second, .val (.int (x2 + (x3 &&& (1 : Int32)))), .val (.int (x2 + ((x3 >>> ((1 : Int32) &&& 31)) &&& (1 : Int32)))), .val (.int (x2 + ((x3 >>> ((2 : Int32) &&& 31)) &&& (1 : Int32)))), .val (.ref b1), .val (.ref b5), .val (.ref b8), .val (.ref b12), .val (.ref b17), .val (.int (1 : Int32))] [(.int x3), (.int x2), (.long z72), (.int (x1 >>> ((3 : Int32) &&& 31))), (.ref b1), (.ref b17)])
    refine own_by (fun t_ k_ => XS.iconst X72.here hx rfl (hb hby at_287) k_) ?_
    show own_Go p e below _ T72 (mkF m 288 #[.val (.int x1), .val (.long y1), .second, .val (.long y2), .second, .val (.long y3), .second, .val (.int x2), .val (.int x3), .val (.int (2 : Int32)), .val (.long ((y1 &&& (7 : Int64)) - (4 : Int64))), .second, .val (.long (((y1 &&& (7 : Int64)) - (4 : Int64)) + ((y1 >>> ((3 : Int32).toInt64 &&& 63)) &&& (3 : Int64)))), .second, .val (.long ((((y1 &&& (7 : Int64)) - (4 : Int64)) + ((y1 >>> ((3 : Int32).toInt64 &&& 63)) &&& (3 : Int64))) + ((y1 >>> ((5 : Int32).toInt64 &&& 63)) &&& (3 : Int64)))), .second, .val (.int (x2 + (x3 &&& (1 : Int32)))), .val (.int (x2 + ((x3 >>> ((1 : Int32) &&& 31)) &&& (1 : Int32)))), .val (.int (x2 + ((x3 >>> ((2 : Int32) &&& 31)) &&& (1 : Int32)))), .val (.ref b1), .val (.ref b5), .val (.ref b8), .val (.ref b12), .val (.ref b17), .val (.int (1 : Int32))] [(.int (5 : Int32)), (.int x3), (.int x2), (.long z72), (.int (x1 >>> ((3 : Int32) &&& 31))), (.ref b1), (.ref b17)])
    refine own_by (fun t_ k_ => XT.ishr X72.here hx rfl (hb hby at_288) rfl k_) ?_
    show own_Go p e below _ T72 (mkF m 289 #[.val (.int x1), .val (.long y1), .second, .val (.long y2), .second, .val (.long y3), .second, .val (.int x2), .val (.int x3), .val (.int (2 : Int32)), .val (.long ((y1 &&& (7 : Int64)) - (4 : Int64))), .second, .val (.long (((y1 &&& (7 : Int64)) - (4 : Int64)) + ((y1 >>> ((3 : Int32).toInt64 &&& 63)) &&& (3 : Int64)))), .second, .val (.long ((((y1 &&& (7 : Int64)) - (4 : Int64)) + ((y1 >>> ((3 : Int32).toInt64 &&& 63)) &&& (3 : Int64))) + ((y1 >>> ((5 : Int32).toInt64 &&& 63)) &&& (3 : Int64)))), .second, .val (.int (x2 + (x3 &&& (1 : Int32)))), .val (.int (x2 + ((x3 >>> ((1 : Int32) &&& 31)) &&& (1 : Int32)))), .val (.int (x2 + ((x3 >>> ((2 : Int32) &&& 31)) &&& (1 : Int32)))), .val (.ref b1), .val (.ref b5), .val (.ref b8), .val (.ref b12), .val (.ref b17), .val (.int (1 : Int32))] [(.int (x3 >>> ((5 : Int32) &&& 31))), (.int x2), (.long z72), (.int (x1 >>> ((3 : Int32) &&& 31))), (.ref b1), (.ref b17)])
    refine own_by (fun t_ k_ => XS.iconst X72.here hx rfl (hb hby at_289) k_) ?_
    show own_Go p e below _ T72 (mkF m 290 #[.val (.int x1), .val (.long y1), .second, .val (.long y2), .second, .val (.long y3), .second, .val (.int x2), .val (.int x3), .val (.int (2 : Int32)), .val (.long ((y1 &&& (7 : Int64)) - (4 : Int64))), .second, .val (.long (((y1 &&& (7 : Int64)) - (4 : Int64)) + ((y1 >>> ((3 : Int32).toInt64 &&& 63)) &&& (3 : Int64)))), .second, .val (.long ((((y1 &&& (7 : Int64)) - (4 : Int64)) + ((y1 >>> ((3 : Int32).toInt64 &&& 63)) &&& (3 : Int64))) + ((y1 >>> ((5 : Int32).toInt64 &&& 63)) &&& (3 : Int64)))), .second, .val (.int (x2 + (x3 &&& (1 : Int32)))), .val (.int (x2 + ((x3 >>> ((1 : Int32) &&& 31)) &&& (1 : Int32)))), .val (.int (x2 + ((x3 >>> ((2 : Int32) &&& 31)) &&& (1 : Int32)))), .val (.ref b1), .val (.ref b5), .val (.ref b8), .val (.ref b12), .val (.ref b17), .val (.int (1 : Int32))] [(.int (1 : Int32)), (.int (x3 >>> ((5 : Int32) &&& 31))), (.int x2), (.long z72), (.int (x1 >>> ((3 : Int32) &&& 31))), (.ref b1), (.ref b17)])
    refine own_by (fun t_ k_ => XS.iand X72.here hx rfl (hb hby at_290) rfl k_) ?_
    show own_Go p e below _ T72 (mkF m 291 #[.val (.int x1), .val (.long y1), .second, .val (.long y2), .second, .val (.long y3), .second, .val (.int x2), .val (.int x3), .val (.int (2 : Int32)), .val (.long ((y1 &&& (7 : Int64)) - (4 : Int64))), .second, .val (.long (((y1 &&& (7 : Int64)) - (4 : Int64)) + ((y1 >>> ((3 : Int32).toInt64 &&& 63)) &&& (3 : Int64)))), .second, .val (.long ((((y1 &&& (7 : Int64)) - (4 : Int64)) + ((y1 >>> ((3 : Int32).toInt64 &&& 63)) &&& (3 : Int64))) + ((y1 >>> ((5 : Int32).toInt64 &&& 63)) &&& (3 : Int64)))), .second, .val (.int (x2 + (x3 &&& (1 : Int32)))), .val (.int (x2 + ((x3 >>> ((1 : Int32) &&& 31)) &&& (1 : Int32)))), .val (.int (x2 + ((x3 >>> ((2 : Int32) &&& 31)) &&& (1 : Int32)))), .val (.ref b1), .val (.ref b5), .val (.ref b8), .val (.ref b12), .val (.ref b17), .val (.int (1 : Int32))] [(.int ((x3 >>> ((5 : Int32) &&& 31)) &&& (1 : Int32))), (.int x2), (.long z72), (.int (x1 >>> ((3 : Int32) &&& 31))), (.ref b1), (.ref b17)])
    refine own_by (fun t_ k_ => XS.iadd X72.here hx rfl (hb hby at_291) rfl k_) ?_
    show own_Go p e below _ T72 (mkF m 292 #[.val (.int x1), .val (.long y1), .second, .val (.long y2), .second, .val (.long y3), .second, .val (.int x2), .val (.int x3), .val (.int (2 : Int32)), .val (.long ((y1 &&& (7 : Int64)) - (4 : Int64))), .second, .val (.long (((y1 &&& (7 : Int64)) - (4 : Int64)) + ((y1 >>> ((3 : Int32).toInt64 &&& 63)) &&& (3 : Int64)))), .second, .val (.long ((((y1 &&& (7 : Int64)) - (4 : Int64)) + ((y1 >>> ((3 : Int32).toInt64 &&& 63)) &&& (3 : Int64))) + ((y1 >>> ((5 : Int32).toInt64 &&& 63)) &&& (3 : Int64)))), .second, .val (.int (x2 + (x3 &&& (1 : Int32)))), .val (.int (x2 + ((x3 >>> ((1 : Int32) &&& 31)) &&& (1 : Int32)))), .val (.int (x2 + ((x3 >>> ((2 : Int32) &&& 31)) &&& (1 : Int32)))), .val (.ref b1), .val (.ref b5), .val (.ref b8), .val (.ref b12), .val (.ref b17), .val (.int (1 : Int32))] [(.int (x2 + ((x3 >>> ((5 : Int32) &&& 31)) &&& (1 : Int32)))), (.long z72), (.int (x1 >>> ((3 : Int32) &&& 31))), (.ref b1), (.ref b17)])
    refine own_callS (W := 0) X72 hx hZ (y := (⟨"com/example/hedgewalk/hedgewalk/eval/GoalQueueHasOpenPinLaw", "step", "(Lcom/example/hedgewalk/hedgewalk/eval/GoalQueue;Lcom/example/hedgewalk/hedgewalk/eval/Agenda;IJI)V"⟩ : MethodName)) hown (own_w hw 81 rfl) (own_w hw 82 rfl) (own_w hw 78 rfl) (own_w hw 83 rfl) (by decide) (by rw [hml]; rfl) (argsL := [(.ref b17), (.ref b1), (.int (x1 >>> ((3 : Int32) &&& 31))), (.long z72), (.int (x2 + ((x3 >>> ((5 : Int32) &&& 31)) &&& (1 : Int32))))]) pd_4 rfl (rm11 l Z a0 hw [] b17 b1 (x1 >>> ((3 : Int32) &&& 31)) z72 (x2 + ((x3 >>> ((5 : Int32) &&& 31)) &&& (1 : Int32))) aH aF bk bh bg ([b5, b8, b12] : List Addr) O68 ([b5, b8] : List Addr) ([b12] : List Addr) s68 f68 T68.heap n0 sz69_ HW69_) (by decide) (by decide) (Nat.le_of_eq rfl) (by decide) (by decide) (rest := []) e72 rfl (hb hby at_292) ?_
    intro v73 T73 L73 X73 hQ73
    obtain ⟨O73, s73, f73, rfl, N73q, HX73⟩ := hQ73
    have N73 := Fr.app N72 N73q
    have HW74_ : own_W Z T73.heap n0 aH aF b17 bk bh bg b1 ([b5, b8, b12] : List Addr) O73 ([b5, b8] : List Addr) ([b12] : List Addr) s73 f73 := HX73
    have Eq74 := HW74_.exa
    have sz74_ := HW74_.sz
    show own_Go p e below _ T73 (mkF m 295 #[.val (.int x1), .val (.long y1), .second, .val (.long y2), .second, .val (.long y3), .second, .val (.int x2), .val (.int x3), .val (.int (2 : Int32)), .val (.long ((y1 &&& (7 : Int64)) - (4 : Int64))), .second, .val (.long (((y1 &&& (7 : Int64)) - (4 : Int64)) + ((y1 >>> ((3 : Int32).toInt64 &&& 63)) &&& (3 : Int64)))), .second, .val (.long ((((y1 &&& (7 : Int64)) - (4 : Int64)) + ((y1 >>> ((3 : Int32).toInt64 &&& 63)) &&& (3 : Int64))) + ((y1 >>> ((5 : Int32).toInt64 &&& 63)) &&& (3 : Int64)))), .second, .val (.int (x2 + (x3 &&& (1 : Int32)))), .val (.int (x2 + ((x3 >>> ((1 : Int32) &&& 31)) &&& (1 : Int32)))), .val (.int (x2 + ((x3 >>> ((2 : Int32) &&& 31)) &&& (1 : Int32)))), .val (.ref b1), .val (.ref b5), .val (.ref b8), .val (.ref b12), .val (.ref b17), .val (.int (1 : Int32))] [])
    refine own_by (fun t_ k_ => XS.iload X73.here hx rfl (hb hby at_295) rfl k_) ?_
    show own_Go p e below _ T73 (mkF m 297 #[.val (.int x1), .val (.long y1), .second, .val (.long y2), .second, .val (.long y3), .second, .val (.int x2), .val (.int x3), .val (.int (2 : Int32)), .val (.long ((y1 &&& (7 : Int64)) - (4 : Int64))), .second, .val (.long (((y1 &&& (7 : Int64)) - (4 : Int64)) + ((y1 >>> ((3 : Int32).toInt64 &&& 63)) &&& (3 : Int64)))), .second, .val (.long ((((y1 &&& (7 : Int64)) - (4 : Int64)) + ((y1 >>> ((3 : Int32).toInt64 &&& 63)) &&& (3 : Int64))) + ((y1 >>> ((5 : Int32).toInt64 &&& 63)) &&& (3 : Int64)))), .second, .val (.int (x2 + (x3 &&& (1 : Int32)))), .val (.int (x2 + ((x3 >>> ((1 : Int32) &&& 31)) &&& (1 : Int32)))), .val (.int (x2 + ((x3 >>> ((2 : Int32) &&& 31)) &&& (1 : Int32)))), .val (.ref b1), .val (.ref b5), .val (.ref b8), .val (.ref b12), .val (.ref b17), .val (.int (1 : Int32))] [(.int (1 : Int32))])
    refine own_if X73 hx 323 (hb hby at_297) (by decide) (by decide) (fun hc => absurd (show ¬ (1 : Int32) = (0 : Int32) from by decide) (by first | exact hc | exact not_not_intro hc)) (fun _ => ?_)
    show own_Go p e below _ T73 (mkF m 300 #[.val (.int x1), .val (.long y1), .second, .val (.long y2), .second, .val (.long y3), .second, .val (.int x2), .val (.int x3), .val (.int (2 : Int32)), .val (.long ((y1 &&& (7 : Int64)) - (4 : Int64))), .second, .val (.long (((y1 &&& (7 : Int64)) - (4 : Int64)) + ((y1 >>> ((3 : Int32).toInt64 &&& 63)) &&& (3 : Int64)))), .second, .val (.long ((((y1 &&& (7 : Int64)) - (4 : Int64)) + ((y1 >>> ((3 : Int32).toInt64 &&& 63)) &&& (3 : Int64))) + ((y1 >>> ((5 : Int32).toInt64 &&& 63)) &&& (3 : Int64)))), .second, .val (.int (x2 + (x3 &&& (1 : Int32)))), .val (.int (x2 + ((x3 >>> ((1 : Int32) &&& 31)) &&& (1 : Int32)))), .val (.int (x2 + ((x3 >>> ((2 : Int32) &&& 31)) &&& (1 : Int32)))), .val (.ref b1), .val (.ref b5), .val (.ref b8), .val (.ref b12), .val (.ref b17), .val (.int (1 : Int32))] [])
    refine own_by (fun t_ k_ => XS.aload X73.here hx rfl (hb hby at_300) rfl rfl k_) ?_
    show own_Go p e below _ T73 (mkF m 302 #[.val (.int x1), .val (.long y1), .second, .val (.long y2), .second, .val (.long y3), .second, .val (.int x2), .val (.int x3), .val (.int (2 : Int32)), .val (.long ((y1 &&& (7 : Int64)) - (4 : Int64))), .second, .val (.long (((y1 &&& (7 : Int64)) - (4 : Int64)) + ((y1 >>> ((3 : Int32).toInt64 &&& 63)) &&& (3 : Int64)))), .second, .val (.long ((((y1 &&& (7 : Int64)) - (4 : Int64)) + ((y1 >>> ((3 : Int32).toInt64 &&& 63)) &&& (3 : Int64))) + ((y1 >>> ((5 : Int32).toInt64 &&& 63)) &&& (3 : Int64)))), .second, .val (.int (x2 + (x3 &&& (1 : Int32)))), .val (.int (x2 + ((x3 >>> ((1 : Int32) &&& 31)) &&& (1 : Int32)))), .val (.int (x2 + ((x3 >>> ((2 : Int32) &&& 31)) &&& (1 : Int32)))), .val (.ref b1), .val (.ref b5), .val (.ref b8), .val (.ref b12), .val (.ref b17), .val (.int (1 : Int32))] [(.ref b17)])
    refine own_callV (W := 0) X73 hx hZ (y := (⟨"com/example/hedgewalk/hedgewalk/eval/GoalQueue", "hasOpen", "()Z"⟩ : MethodName)) (z := (⟨"com/example/hedgewalk/hedgewalk/eval/GoalQueue", "hasOpen", "()Z"⟩ : MethodName)) hown (own_w hw 67 rfl) (own_w hw 68 rfl) (notFace_of_selects (args := #[]) (mvT hZ (own_w hw 70 rfl))) (own_w hw 70 rfl) (own_w hw 69 rfl) (own_w hw 52 rfl) (own_w hw 71 rfl) (by decide) (by rw [hml]; rfl) (argsL := []) pd_2 rfl (a := b17) rfl Eq74 (rm9 l Z a0 hw [] b17 aH aF bk bh bg b1 ([b5, b8, b12] : List Addr) O73 ([b5, b8] : List Addr) ([b12] : List Addr) s73 f73 T73.heap n0 sz74_ HW74_) (by decide) (by decide) (Nat.le_of_eq rfl) (by decide) (by decide) (rest := []) rfl (hb hby at_302) ?_
    intro v75 T75 L75 X75 hQ75
    obtain ⟨rfl, N75q, e75⟩ := hQ75
    have N75 := Fr.app N73 N75q
    show own_Go p e below _ T75 (mkF m 305 #[.val (.int x1), .val (.long y1), .second, .val (.long y2), .second, .val (.long y3), .second, .val (.int x2), .val (.int x3), .val (.int (2 : Int32)), .val (.long ((y1 &&& (7 : Int64)) - (4 : Int64))), .second, .val (.long (((y1 &&& (7 : Int64)) - (4 : Int64)) + ((y1 >>> ((3 : Int32).toInt64 &&& 63)) &&& (3 : Int64)))), .second, .val (.long ((((y1 &&& (7 : Int64)) - (4 : Int64)) + ((y1 >>> ((3 : Int32).toInt64 &&& 63)) &&& (3 : Int64))) + ((y1 >>> ((5 : Int32).toInt64 &&& 63)) &&& (3 : Int64)))), .second, .val (.int (x2 + (x3 &&& (1 : Int32)))), .val (.int (x2 + ((x3 >>> ((1 : Int32) &&& 31)) &&& (1 : Int32)))), .val (.int (x2 + ((x3 >>> ((2 : Int32) &&& 31)) &&& (1 : Int32)))), .val (.ref b1), .val (.ref b5), .val (.ref b8), .val (.ref b12), .val (.ref b17), .val (.int (1 : Int32))] [(.int (own_h O73))])
    refine own_by (fun t_ k_ => XS.iload X75.here hx rfl (hb hby at_305) rfl k_) ?_
    show own_Go p e below _ T75 (mkF m 307 #[.val (.int x1), .val (.long y1), .second, .val (.long y2), .second, .val (.long y3), .second, .val (.int x2), .val (.int x3), .val (.int (2 : Int32)), .val (.long ((y1 &&& (7 : Int64)) - (4 : Int64))), .second, .val (.long (((y1 &&& (7 : Int64)) - (4 : Int64)) + ((y1 >>> ((3 : Int32).toInt64 &&& 63)) &&& (3 : Int64)))), .second, .val (.long ((((y1 &&& (7 : Int64)) - (4 : Int64)) + ((y1 >>> ((3 : Int32).toInt64 &&& 63)) &&& (3 : Int64))) + ((y1 >>> ((5 : Int32).toInt64 &&& 63)) &&& (3 : Int64)))), .second, .val (.int (x2 + (x3 &&& (1 : Int32)))), .val (.int (x2 + ((x3 >>> ((1 : Int32) &&& 31)) &&& (1 : Int32)))), .val (.int (x2 + ((x3 >>> ((2 : Int32) &&& 31)) &&& (1 : Int32)))), .val (.ref b1), .val (.ref b5), .val (.ref b8), .val (.ref b12), .val (.ref b17), .val (.int (1 : Int32))] [(.int (2 : Int32)), (.int (own_h O73))])
    refine own_by (fun t_ k_ => XS.aload X75.here hx rfl (hb hby at_307) rfl rfl k_) ?_
    show own_Go p e below _ T75 (mkF m 309 #[.val (.int x1), .val (.long y1), .second, .val (.long y2), .second, .val (.long y3), .second, .val (.int x2), .val (.int x3), .val (.int (2 : Int32)), .val (.long ((y1 &&& (7 : Int64)) - (4 : Int64))), .second, .val (.long (((y1 &&& (7 : Int64)) - (4 : Int64)) + ((y1 >>> ((3 : Int32).toInt64 &&& 63)) &&& (3 : Int64)))), .second, .val (.long ((((y1 &&& (7 : Int64)) - (4 : Int64)) + ((y1 >>> ((3 : Int32).toInt64 &&& 63)) &&& (3 : Int64))) + ((y1 >>> ((5 : Int32).toInt64 &&& 63)) &&& (3 : Int64)))), .second, .val (.int (x2 + (x3 &&& (1 : Int32)))), .val (.int (x2 + ((x3 >>> ((1 : Int32) &&& 31)) &&& (1 : Int32)))), .val (.int (x2 + ((x3 >>> ((2 : Int32) &&& 31)) &&& (1 : Int32)))), .val (.ref b1), .val (.ref b5), .val (.ref b8), .val (.ref b12), .val (.ref b17), .val (.int (1 : Int32))] [(.ref b5), (.int (2 : Int32)), (.int (own_h O73))])
    refine own_by (fun t_ k_ => XS.aload X75.here hx rfl (hb hby at_309) rfl rfl k_) ?_
    show own_Go p e below _ T75 (mkF m 311 #[.val (.int x1), .val (.long y1), .second, .val (.long y2), .second, .val (.long y3), .second, .val (.int x2), .val (.int x3), .val (.int (2 : Int32)), .val (.long ((y1 &&& (7 : Int64)) - (4 : Int64))), .second, .val (.long (((y1 &&& (7 : Int64)) - (4 : Int64)) + ((y1 >>> ((3 : Int32).toInt64 &&& 63)) &&& (3 : Int64)))), .second, .val (.long ((((y1 &&& (7 : Int64)) - (4 : Int64)) + ((y1 >>> ((3 : Int32).toInt64 &&& 63)) &&& (3 : Int64))) + ((y1 >>> ((5 : Int32).toInt64 &&& 63)) &&& (3 : Int64)))), .second, .val (.int (x2 + (x3 &&& (1 : Int32)))), .val (.int (x2 + ((x3 >>> ((1 : Int32) &&& 31)) &&& (1 : Int32)))), .val (.int (x2 + ((x3 >>> ((2 : Int32) &&& 31)) &&& (1 : Int32)))), .val (.ref b1), .val (.ref b5), .val (.ref b8), .val (.ref b12), .val (.ref b17), .val (.int (1 : Int32))] [(.ref b8), (.ref b5), (.int (2 : Int32)), (.int (own_h O73))])
    refine own_by (fun t_ k_ => XS.aload X75.here hx rfl (hb hby at_311) rfl rfl k_) ?_
    show own_Go p e below _ T75 (mkF m 313 #[.val (.int x1), .val (.long y1), .second, .val (.long y2), .second, .val (.long y3), .second, .val (.int x2), .val (.int x3), .val (.int (2 : Int32)), .val (.long ((y1 &&& (7 : Int64)) - (4 : Int64))), .second, .val (.long (((y1 &&& (7 : Int64)) - (4 : Int64)) + ((y1 >>> ((3 : Int32).toInt64 &&& 63)) &&& (3 : Int64)))), .second, .val (.long ((((y1 &&& (7 : Int64)) - (4 : Int64)) + ((y1 >>> ((3 : Int32).toInt64 &&& 63)) &&& (3 : Int64))) + ((y1 >>> ((5 : Int32).toInt64 &&& 63)) &&& (3 : Int64)))), .second, .val (.int (x2 + (x3 &&& (1 : Int32)))), .val (.int (x2 + ((x3 >>> ((1 : Int32) &&& 31)) &&& (1 : Int32)))), .val (.int (x2 + ((x3 >>> ((2 : Int32) &&& 31)) &&& (1 : Int32)))), .val (.ref b1), .val (.ref b5), .val (.ref b8), .val (.ref b12), .val (.ref b17), .val (.int (1 : Int32))] [(.ref b12), (.ref b8), (.ref b5), (.int (2 : Int32)), (.int (own_h O73))])
    refine own_callS (W := 1) X75 hx hZ (y := (⟨"com/example/hedgewalk/hedgewalk/eval/GoalQueueHasOpenPinLaw", "anyOpen", "(ILcom/example/hedgewalk/hedgewalk/eval/Verdict$Told;Lcom/example/hedgewalk/hedgewalk/eval/Verdict$Told;Lcom/example/hedgewalk/hedgewalk/eval/Verdict$Told;)Z"⟩ : MethodName)) hown (own_w hw 89 rfl) (own_w hw 90 rfl) (own_w hw 78 rfl) (own_w hw 91 rfl) (by decide) (by rw [hml]; rfl) (argsL := [(.int (2 : Int32)), (.ref b5), (.ref b8), (.ref b12)]) pd_6 rfl (rm13 l Z a0 hw [] (2 : Int32) b5 b8 b12 b17 aH aF bk bh bg b1 ([b5, b8, b12] : List Addr) O73 ([b5, b8] : List Addr) ([b12] : List Addr) s73 f73 T73.heap n0 sz74_ HW74_ (Or.inr (Or.inr (Or.inl ⟨rfl, rfl⟩)))) (by decide) (by decide) (Nat.le_of_eq rfl) (by decide) (by decide) (rest := [(.int (own_h O73))]) e75 rfl (hb hby at_313) ?_
    intro v76 T76 L76 X76 hQ76
    obtain ⟨rfl, N76q, e76⟩ := hQ76
    have N76 := Fr.app N75 N76q
    show own_Go p e below _ T76 (mkF m 316 #[.val (.int x1), .val (.long y1), .second, .val (.long y2), .second, .val (.long y3), .second, .val (.int x2), .val (.int x3), .val (.int (2 : Int32)), .val (.long ((y1 &&& (7 : Int64)) - (4 : Int64))), .second, .val (.long (((y1 &&& (7 : Int64)) - (4 : Int64)) + ((y1 >>> ((3 : Int32).toInt64 &&& 63)) &&& (3 : Int64)))), .second, .val (.long ((((y1 &&& (7 : Int64)) - (4 : Int64)) + ((y1 >>> ((3 : Int32).toInt64 &&& 63)) &&& (3 : Int64))) + ((y1 >>> ((5 : Int32).toInt64 &&& 63)) &&& (3 : Int64)))), .second, .val (.int (x2 + (x3 &&& (1 : Int32)))), .val (.int (x2 + ((x3 >>> ((1 : Int32) &&& 31)) &&& (1 : Int32)))), .val (.int (x2 + ((x3 >>> ((2 : Int32) &&& 31)) &&& (1 : Int32)))), .val (.ref b1), .val (.ref b5), .val (.ref b8), .val (.ref b12), .val (.ref b17), .val (.int (1 : Int32))] [(.int (own_h O73)), (.int (own_h O73))])
    refine own_icmp X76 hx 323 (hb hby at_316) (by decide) (by decide) (fun hc => absurd (show (own_h O73) = (own_h O73) from rfl) (by first | exact hc | exact not_not_intro hc)) (fun _ => ?_)
    show own_Go p e below _ T76 (mkF m 319 #[.val (.int x1), .val (.long y1), .second, .val (.long y2), .second, .val (.long y3), .second, .val (.int x2), .val (.int x3), .val (.int (2 : Int32)), .val (.long ((y1 &&& (7 : Int64)) - (4 : Int64))), .second, .val (.long (((y1 &&& (7 : Int64)) - (4 : Int64)) + ((y1 >>> ((3 : Int32).toInt64 &&& 63)) &&& (3 : Int64)))), .second, .val (.long ((((y1 &&& (7 : Int64)) - (4 : Int64)) + ((y1 >>> ((3 : Int32).toInt64 &&& 63)) &&& (3 : Int64))) + ((y1 >>> ((5 : Int32).toInt64 &&& 63)) &&& (3 : Int64)))), .second, .val (.int (x2 + (x3 &&& (1 : Int32)))), .val (.int (x2 + ((x3 >>> ((1 : Int32) &&& 31)) &&& (1 : Int32)))), .val (.int (x2 + ((x3 >>> ((2 : Int32) &&& 31)) &&& (1 : Int32)))), .val (.ref b1), .val (.ref b5), .val (.ref b8), .val (.ref b12), .val (.ref b17), .val (.int (1 : Int32))] [])
    refine own_by (fun t_ k_ => XS.iconst X76.here hx rfl (hb hby at_319) k_) ?_
    show own_Go p e below _ T76 (mkF m 320 #[.val (.int x1), .val (.long y1), .second, .val (.long y2), .second, .val (.long y3), .second, .val (.int x2), .val (.int x3), .val (.int (2 : Int32)), .val (.long ((y1 &&& (7 : Int64)) - (4 : Int64))), .second, .val (.long (((y1 &&& (7 : Int64)) - (4 : Int64)) + ((y1 >>> ((3 : Int32).toInt64 &&& 63)) &&& (3 : Int64)))), .second, .val (.long ((((y1 &&& (7 : Int64)) - (4 : Int64)) + ((y1 >>> ((3 : Int32).toInt64 &&& 63)) &&& (3 : Int64))) + ((y1 >>> ((5 : Int32).toInt64 &&& 63)) &&& (3 : Int64)))), .second, .val (.int (x2 + (x3 &&& (1 : Int32)))), .val (.int (x2 + ((x3 >>> ((1 : Int32) &&& 31)) &&& (1 : Int32)))), .val (.int (x2 + ((x3 >>> ((2 : Int32) &&& 31)) &&& (1 : Int32)))), .val (.ref b1), .val (.ref b5), .val (.ref b8), .val (.ref b12), .val (.ref b17), .val (.int (1 : Int32))] [(.int (1 : Int32))])
    refine own_by (fun t_ k_ => XS.goto X76.here hx rfl (pc0 := 320) (pc' := 324) rfl (hb hby at_320) (by decide) (by decide) k_) ?_
    show own_Go p e below _ T76 (mkF m 324 #[.val (.int x1), .val (.long y1), .second, .val (.long y2), .second, .val (.long y3), .second, .val (.int x2), .val (.int x3), .val (.int (2 : Int32)), .val (.long ((y1 &&& (7 : Int64)) - (4 : Int64))), .second, .val (.long (((y1 &&& (7 : Int64)) - (4 : Int64)) + ((y1 >>> ((3 : Int32).toInt64 &&& 63)) &&& (3 : Int64)))), .second, .val (.long ((((y1 &&& (7 : Int64)) - (4 : Int64)) + ((y1 >>> ((3 : Int32).toInt64 &&& 63)) &&& (3 : Int64))) + ((y1 >>> ((5 : Int32).toInt64 &&& 63)) &&& (3 : Int64)))), .second, .val (.int (x2 + (x3 &&& (1 : Int32)))), .val (.int (x2 + ((x3 >>> ((1 : Int32) &&& 31)) &&& (1 : Int32)))), .val (.int (x2 + ((x3 >>> ((2 : Int32) &&& 31)) &&& (1 : Int32)))), .val (.ref b1), .val (.ref b5), .val (.ref b8), .val (.ref b12), .val (.ref b17), .val (.int (1 : Int32))] [(.int (1 : Int32))])
    refine own_by (fun t_ k_ => XS.istore X76.here hx rfl (hb hby at_324) rfl (l' := #[.val (.int x1), .val (.long y1), .second, .val (.long y2), .second, .val (.long y3), .second, .val (.int x2), .val (.int x3), .val (.int (2 : Int32)), .val (.long ((y1 &&& (7 : Int64)) - (4 : Int64))), .second, .val (.long (((y1 &&& (7 : Int64)) - (4 : Int64)) + ((y1 >>> ((3 : Int32).toInt64 &&& 63)) &&& (3 : Int64)))), .second, .val (.long ((((y1 &&& (7 : Int64)) - (4 : Int64)) + ((y1 >>> ((3 : Int32).toInt64 &&& 63)) &&& (3 : Int64))) + ((y1 >>> ((5 : Int32).toInt64 &&& 63)) &&& (3 : Int64)))), .second, .val (.int (x2 + (x3 &&& (1 : Int32)))), .val (.int (x2 + ((x3 >>> ((1 : Int32) &&& 31)) &&& (1 : Int32)))), .val (.int (x2 + ((x3 >>> ((2 : Int32) &&& 31)) &&& (1 : Int32)))), .val (.ref b1), .val (.ref b5), .val (.ref b8), .val (.ref b12), .val (.ref b17), .val (.int (1 : Int32))]) rfl k_) ?_
    show own_Go p e below _ T76 (mkF m 326 #[.val (.int x1), .val (.long y1), .second, .val (.long y2), .second, .val (.long y3), .second, .val (.int x2), .val (.int x3), .val (.int (2 : Int32)), .val (.long ((y1 &&& (7 : Int64)) - (4 : Int64))), .second, .val (.long (((y1 &&& (7 : Int64)) - (4 : Int64)) + ((y1 >>> ((3 : Int32).toInt64 &&& 63)) &&& (3 : Int64)))), .second, .val (.long ((((y1 &&& (7 : Int64)) - (4 : Int64)) + ((y1 >>> ((3 : Int32).toInt64 &&& 63)) &&& (3 : Int64))) + ((y1 >>> ((5 : Int32).toInt64 &&& 63)) &&& (3 : Int64)))), .second, .val (.int (x2 + (x3 &&& (1 : Int32)))), .val (.int (x2 + ((x3 >>> ((1 : Int32) &&& 31)) &&& (1 : Int32)))), .val (.int (x2 + ((x3 >>> ((2 : Int32) &&& 31)) &&& (1 : Int32)))), .val (.ref b1), .val (.ref b5), .val (.ref b8), .val (.ref b12), .val (.ref b17), .val (.int (1 : Int32))] [])
    refine own_by (fun t_ k_ => XS.iload X76.here hx rfl (hb hby at_326) rfl k_) ?_
    show own_Go p e below _ T76 (mkF m 328 #[.val (.int x1), .val (.long y1), .second, .val (.long y2), .second, .val (.long y3), .second, .val (.int x2), .val (.int x3), .val (.int (2 : Int32)), .val (.long ((y1 &&& (7 : Int64)) - (4 : Int64))), .second, .val (.long (((y1 &&& (7 : Int64)) - (4 : Int64)) + ((y1 >>> ((3 : Int32).toInt64 &&& 63)) &&& (3 : Int64)))), .second, .val (.long ((((y1 &&& (7 : Int64)) - (4 : Int64)) + ((y1 >>> ((3 : Int32).toInt64 &&& 63)) &&& (3 : Int64))) + ((y1 >>> ((5 : Int32).toInt64 &&& 63)) &&& (3 : Int64)))), .second, .val (.int (x2 + (x3 &&& (1 : Int32)))), .val (.int (x2 + ((x3 >>> ((1 : Int32) &&& 31)) &&& (1 : Int32)))), .val (.int (x2 + ((x3 >>> ((2 : Int32) &&& 31)) &&& (1 : Int32)))), .val (.ref b1), .val (.ref b5), .val (.ref b8), .val (.ref b12), .val (.ref b17), .val (.int (1 : Int32))] [(.int (1 : Int32))])
    refine own_retZ X76 hx hlk Bd.returns (by decide) (hb hby at_328) e76 (by decide) (by decide) ?_
    exact ⟨rfl, N76⟩
  · show own_Go p e below _ T37 (mkF m 131 #[.val (.int x1), .val (.long y1), .second, .val (.long y2), .second, .val (.long y3), .second, .val (.int x2), .val (.int x3), .val (.int (3 : Int32)), .val (.long ((y1 &&& (7 : Int64)) - (4 : Int64))), .second, .val (.long (((y1 &&& (7 : Int64)) - (4 : Int64)) + ((y1 >>> ((3 : Int32).toInt64 &&& 63)) &&& (3 : Int64)))), .second, .val (.long ((((y1 &&& (7 : Int64)) - (4 : Int64)) + ((y1 >>> ((3 : Int32).toInt64 &&& 63)) &&& (3 : Int64))) + ((y1 >>> ((5 : Int32).toInt64 &&& 63)) &&& (3 : Int64)))), .second, .val (.int (x2 + (x3 &&& (1 : Int32)))), .val (.int (x2 + ((x3 >>> ((1 : Int32) &&& 31)) &&& (1 : Int32)))), .val (.int (x2 + ((x3 >>> ((2 : Int32) &&& 31)) &&& (1 : Int32)))), .val (.ref b1), .val (.ref b5), .val (.ref b8), .val (.ref b12), .val (.ref b17), .val (.int (1 : Int32))] [])
    refine own_by (fun t_ k_ => XS.iload X37.here hx rfl (hb hby at_131) rfl k_) ?_
    show own_Go p e below _ T37 (mkF m 133 #[.val (.int x1), .val (.long y1), .second, .val (.long y2), .second, .val (.long y3), .second, .val (.int x2), .val (.int x3), .val (.int (3 : Int32)), .val (.long ((y1 &&& (7 : Int64)) - (4 : Int64))), .second, .val (.long (((y1 &&& (7 : Int64)) - (4 : Int64)) + ((y1 >>> ((3 : Int32).toInt64 &&& 63)) &&& (3 : Int64)))), .second, .val (.long ((((y1 &&& (7 : Int64)) - (4 : Int64)) + ((y1 >>> ((3 : Int32).toInt64 &&& 63)) &&& (3 : Int64))) + ((y1 >>> ((5 : Int32).toInt64 &&& 63)) &&& (3 : Int64)))), .second, .val (.int (x2 + (x3 &&& (1 : Int32)))), .val (.int (x2 + ((x3 >>> ((1 : Int32) &&& 31)) &&& (1 : Int32)))), .val (.int (x2 + ((x3 >>> ((2 : Int32) &&& 31)) &&& (1 : Int32)))), .val (.ref b1), .val (.ref b5), .val (.ref b8), .val (.ref b12), .val (.ref b17), .val (.int (1 : Int32))] [(.int (3 : Int32))])
    refine own_if X37 hx 147 (hb hby at_133) (by decide) (by decide) (fun hc => absurd (show (0 : Int32) < (3 : Int32) from by decide) (by first | exact hc | exact not_not_intro hc)) (fun _ => ?_)
    show own_Go p e below _ T37 (mkF m 136 #[.val (.int x1), .val (.long y1), .second, .val (.long y2), .second, .val (.long y3), .second, .val (.int x2), .val (.int x3), .val (.int (3 : Int32)), .val (.long ((y1 &&& (7 : Int64)) - (4 : Int64))), .second, .val (.long (((y1 &&& (7 : Int64)) - (4 : Int64)) + ((y1 >>> ((3 : Int32).toInt64 &&& 63)) &&& (3 : Int64)))), .second, .val (.long ((((y1 &&& (7 : Int64)) - (4 : Int64)) + ((y1 >>> ((3 : Int32).toInt64 &&& 63)) &&& (3 : Int64))) + ((y1 >>> ((5 : Int32).toInt64 &&& 63)) &&& (3 : Int64)))), .second, .val (.int (x2 + (x3 &&& (1 : Int32)))), .val (.int (x2 + ((x3 >>> ((1 : Int32) &&& 31)) &&& (1 : Int32)))), .val (.int (x2 + ((x3 >>> ((2 : Int32) &&& 31)) &&& (1 : Int32)))), .val (.ref b1), .val (.ref b5), .val (.ref b8), .val (.ref b12), .val (.ref b17), .val (.int (1 : Int32))] [])
    refine own_by (fun t_ k_ => XS.aload X37.here hx rfl (hb hby at_136) rfl rfl k_) ?_
    show own_Go p e below _ T37 (mkF m 138 #[.val (.int x1), .val (.long y1), .second, .val (.long y2), .second, .val (.long y3), .second, .val (.int x2), .val (.int x3), .val (.int (3 : Int32)), .val (.long ((y1 &&& (7 : Int64)) - (4 : Int64))), .second, .val (.long (((y1 &&& (7 : Int64)) - (4 : Int64)) + ((y1 >>> ((3 : Int32).toInt64 &&& 63)) &&& (3 : Int64)))), .second, .val (.long ((((y1 &&& (7 : Int64)) - (4 : Int64)) + ((y1 >>> ((3 : Int32).toInt64 &&& 63)) &&& (3 : Int64))) + ((y1 >>> ((5 : Int32).toInt64 &&& 63)) &&& (3 : Int64)))), .second, .val (.int (x2 + (x3 &&& (1 : Int32)))), .val (.int (x2 + ((x3 >>> ((1 : Int32) &&& 31)) &&& (1 : Int32)))), .val (.int (x2 + ((x3 >>> ((2 : Int32) &&& 31)) &&& (1 : Int32)))), .val (.ref b1), .val (.ref b5), .val (.ref b8), .val (.ref b12), .val (.ref b17), .val (.int (1 : Int32))] [(.ref b17)])
    refine own_by (fun t_ k_ => XT.lload X37.here hx rfl (hb hby at_138) rfl k_) ?_
    show own_Go p e below _ T37 (mkF m 140 #[.val (.int x1), .val (.long y1), .second, .val (.long y2), .second, .val (.long y3), .second, .val (.int x2), .val (.int x3), .val (.int (3 : Int32)), .val (.long ((y1 &&& (7 : Int64)) - (4 : Int64))), .second, .val (.long (((y1 &&& (7 : Int64)) - (4 : Int64)) + ((y1 >>> ((3 : Int32).toInt64 &&& 63)) &&& (3 : Int64)))), .second, .val (.long ((((y1 &&& (7 : Int64)) - (4 : Int64)) + ((y1 >>> ((3 : Int32).toInt64 &&& 63)) &&& (3 : Int64))) + ((y1 >>> ((5 : Int32).toInt64 &&& 63)) &&& (3 : Int64)))), .second, .val (.int (x2 + (x3 &&& (1 : Int32)))), .val (.int (x2 + ((x3 >>> ((1 : Int32) &&& 31)) &&& (1 : Int32)))), .val (.int (x2 + ((x3 >>> ((2 : Int32) &&& 31)) &&& (1 : Int32)))), .val (.ref b1), .val (.ref b5), .val (.ref b8), .val (.ref b12), .val (.ref b17), .val (.int (1 : Int32))] [(.long ((y1 &&& (7 : Int64)) - (4 : Int64))), (.ref b17)])
    refine own_by (fun t_ k_ => XS.iload X37.here hx rfl (hb hby at_140) rfl k_) ?_
    show own_Go p e below _ T37 (mkF m 142 #[.val (.int x1), .val (.long y1), .second, .val (.long y2), .second, .val (.long y3), .second, .val (.int x2), .val (.int x3), .val (.int (3 : Int32)), .val (.long ((y1 &&& (7 : Int64)) - (4 : Int64))), .second, .val (.long (((y1 &&& (7 : Int64)) - (4 : Int64)) + ((y1 >>> ((3 : Int32).toInt64 &&& 63)) &&& (3 : Int64)))), .second, .val (.long ((((y1 &&& (7 : Int64)) - (4 : Int64)) + ((y1 >>> ((3 : Int32).toInt64 &&& 63)) &&& (3 : Int64))) + ((y1 >>> ((5 : Int32).toInt64 &&& 63)) &&& (3 : Int64)))), .second, .val (.int (x2 + (x3 &&& (1 : Int32)))), .val (.int (x2 + ((x3 >>> ((1 : Int32) &&& 31)) &&& (1 : Int32)))), .val (.int (x2 + ((x3 >>> ((2 : Int32) &&& 31)) &&& (1 : Int32)))), .val (.ref b1), .val (.ref b5), .val (.ref b8), .val (.ref b12), .val (.ref b17), .val (.int (1 : Int32))] [(.int (x2 + (x3 &&& (1 : Int32)))), (.long ((y1 &&& (7 : Int64)) - (4 : Int64))), (.ref b17)])
    refine own_by (fun t_ k_ => XS.aload X37.here hx rfl (hb hby at_142) rfl rfl k_) ?_
    show own_Go p e below _ T37 (mkF m 144 #[.val (.int x1), .val (.long y1), .second, .val (.long y2), .second, .val (.long y3), .second, .val (.int x2), .val (.int x3), .val (.int (3 : Int32)), .val (.long ((y1 &&& (7 : Int64)) - (4 : Int64))), .second, .val (.long (((y1 &&& (7 : Int64)) - (4 : Int64)) + ((y1 >>> ((3 : Int32).toInt64 &&& 63)) &&& (3 : Int64)))), .second, .val (.long ((((y1 &&& (7 : Int64)) - (4 : Int64)) + ((y1 >>> ((3 : Int32).toInt64 &&& 63)) &&& (3 : Int64))) + ((y1 >>> ((5 : Int32).toInt64 &&& 63)) &&& (3 : Int64)))), .second, .val (.int (x2 + (x3 &&& (1 : Int32)))), .val (.int (x2 + ((x3 >>> ((1 : Int32) &&& 31)) &&& (1 : Int32)))), .val (.int (x2 + ((x3 >>> ((2 : Int32) &&& 31)) &&& (1 : Int32)))), .val (.ref b1), .val (.ref b5), .val (.ref b8), .val (.ref b12), .val (.ref b17), .val (.int (1 : Int32))] [(.ref b5), (.int (x2 + (x3 &&& (1 : Int32)))), (.long ((y1 &&& (7 : Int64)) - (4 : Int64))), (.ref b17)])
    refine own_callV (W := 0) X37 hx hZ (y := (⟨"com/example/hedgewalk/hedgewalk/eval/GoalQueue", "add", "(JILcom/example/hedgewalk/hedgewalk/eval/Verdict$Listener;)V"⟩ : MethodName)) (z := (⟨"com/example/hedgewalk/hedgewalk/eval/GoalQueue", "add", "(JILcom/example/hedgewalk/hedgewalk/eval/Verdict$Listener;)V"⟩ : MethodName)) hown (own_w hw 101 rfl) (own_w hw 102 rfl) (notFace_of_selects (args := #[]) (mvT hZ (own_w hw 104 rfl))) (own_w hw 104 rfl) (own_w hw 103 rfl) (own_w hw 52 rfl) (own_w hw 105 rfl) (by decide) (by rw [hml]; rfl) (argsL := [(.long ((y1 &&& (7 : Int64)) - (4 : Int64))), (.int (x2 + (x3 &&& (1 : Int32)))), (.ref b5)]) pd_9 rfl (a := b17) e37 Eq36 (rm16 l Z a0 hw [] b17 ((y1 &&& (7 : Int64)) - (4 : Int64)) (x2 + (x3 &&& (1 : Int32))) b5 aH aF bk bh bg b1 ([b5, b8, b12] : List Addr) [] [] ([b5, b8, b12] : List Addr) 0 0 ([b8, b12] : List Addr) T26.heap n0 sz36_ HW36_ (by decide) rfl (by simp) (ninS (Nat.ne_of_lt lt_b5_b8) (ninS (Nat.ne_of_lt lt_b5_b12) nin0)) nin0) (by decide) (by decide) (Nat.le_of_eq rfl) (by decide) (by decide) (rest := []) rfl (hb hby at_144) ?_
    intro v77 T77 L77 X77 hQ77
    obtain ⟨rfl, N77q, HX77⟩ := hQ77
    have N77 := Fr.app N37 N77q
    have HW78_ : own_W Z T77.heap n0 aH aF b17 bk bh bg b1 ([b5, b8, b12] : List Addr) ([b5] : List Addr) ([b5] : List Addr) ([b8, b12] : List Addr) 1 0 := HX77
    have Eq78 := HW78_.exa
    have sz78_ := HW78_.sz
    show own_Go p e below _ T77 (mkF m 147 #[.val (.int x1), .val (.long y1), .second, .val (.long y2), .second, .val (.long y3), .second, .val (.int x2), .val (.int x3), .val (.int (3 : Int32)), .val (.long ((y1 &&& (7 : Int64)) - (4 : Int64))), .second, .val (.long (((y1 &&& (7 : Int64)) - (4 : Int64)) + ((y1 >>> ((3 : Int32).toInt64 &&& 63)) &&& (3 : Int64)))), .second, .val (.long ((((y1 &&& (7 : Int64)) - (4 : Int64)) + ((y1 >>> ((3 : Int32).toInt64 &&& 63)) &&& (3 : Int64))) + ((y1 >>> ((5 : Int32).toInt64 &&& 63)) &&& (3 : Int64)))), .second, .val (.int (x2 + (x3 &&& (1 : Int32)))), .val (.int (x2 + ((x3 >>> ((1 : Int32) &&& 31)) &&& (1 : Int32)))), .val (.int (x2 + ((x3 >>> ((2 : Int32) &&& 31)) &&& (1 : Int32)))), .val (.ref b1), .val (.ref b5), .val (.ref b8), .val (.ref b12), .val (.ref b17), .val (.int (1 : Int32))] [])
    refine own_by (fun t_ k_ => XS.iload X77.here hx rfl (hb hby at_147) rfl k_) ?_
    show own_Go p e below _ T77 (mkF m 149 #[.val (.int x1), .val (.long y1), .second, .val (.long y2), .second, .val (.long y3), .second, .val (.int x2), .val (.int x3), .val (.int (3 : Int32)), .val (.long ((y1 &&& (7 : Int64)) - (4 : Int64))), .second, .val (.long (((y1 &&& (7 : Int64)) - (4 : Int64)) + ((y1 >>> ((3 : Int32).toInt64 &&& 63)) &&& (3 : Int64)))), .second, .val (.long ((((y1 &&& (7 : Int64)) - (4 : Int64)) + ((y1 >>> ((3 : Int32).toInt64 &&& 63)) &&& (3 : Int64))) + ((y1 >>> ((5 : Int32).toInt64 &&& 63)) &&& (3 : Int64)))), .second, .val (.int (x2 + (x3 &&& (1 : Int32)))), .val (.int (x2 + ((x3 >>> ((1 : Int32) &&& 31)) &&& (1 : Int32)))), .val (.int (x2 + ((x3 >>> ((2 : Int32) &&& 31)) &&& (1 : Int32)))), .val (.ref b1), .val (.ref b5), .val (.ref b8), .val (.ref b12), .val (.ref b17), .val (.int (1 : Int32))] [(.int (3 : Int32))])
    refine own_by (fun t_ k_ => XS.iconst X77.here hx rfl (hb hby at_149) k_) ?_
    show own_Go p e below _ T77 (mkF m 150 #[.val (.int x1), .val (.long y1), .second, .val (.long y2), .second, .val (.long y3), .second, .val (.int x2), .val (.int x3), .val (.int (3 : Int32)), .val (.long ((y1 &&& (7 : Int64)) - (4 : Int64))), .second, .val (.long (((y1 &&& (7 : Int64)) - (4 : Int64)) + ((y1 >>> ((3 : Int32).toInt64 &&& 63)) &&& (3 : Int64)))), .second, .val (.long ((((y1 &&& (7 : Int64)) - (4 : Int64)) + ((y1 >>> ((3 : Int32).toInt64 &&& 63)) &&& (3 : Int64))) + ((y1 >>> ((5 : Int32).toInt64 &&& 63)) &&& (3 : Int64)))), .second, .val (.int (x2 + (x3 &&& (1 : Int32)))), .val (.int (x2 + ((x3 >>> ((1 : Int32) &&& 31)) &&& (1 : Int32)))), .val (.int (x2 + ((x3 >>> ((2 : Int32) &&& 31)) &&& (1 : Int32)))), .val (.ref b1), .val (.ref b5), .val (.ref b8), .val (.ref b12), .val (.ref b17), .val (.int (1 : Int32))] [(.int (1 : Int32)), (.int (3 : Int32))])
    refine own_icmp X77 hx 164 (hb hby at_150) (by decide) (by decide) (fun hc => absurd (show (1 : Int32) < (3 : Int32) from by decide) (by first | exact hc | exact not_not_intro hc)) (fun _ => ?_)
    show own_Go p e below _ T77 (mkF m 153 #[.val (.int x1), .val (.long y1), .second, .val (.long y2), .second, .val (.long y3), .second, .val (.int x2), .val (.int x3), .val (.int (3 : Int32)), .val (.long ((y1 &&& (7 : Int64)) - (4 : Int64))), .second, .val (.long (((y1 &&& (7 : Int64)) - (4 : Int64)) + ((y1 >>> ((3 : Int32).toInt64 &&& 63)) &&& (3 : Int64)))), .second, .val (.long ((((y1 &&& (7 : Int64)) - (4 : Int64)) + ((y1 >>> ((3 : Int32).toInt64 &&& 63)) &&& (3 : Int64))) + ((y1 >>> ((5 : Int32).toInt64 &&& 63)) &&& (3 : Int64)))), .second, .val (.int (x2 + (x3 &&& (1 : Int32)))), .val (.int (x2 + ((x3 >>> ((1 : Int32) &&& 31)) &&& (1 : Int32)))), .val (.int (x2 + ((x3 >>> ((2 : Int32) &&& 31)) &&& (1 : Int32)))), .val (.ref b1), .val (.ref b5), .val (.ref b8), .val (.ref b12), .val (.ref b17), .val (.int (1 : Int32))] [])
    refine own_by (fun t_ k_ => XS.aload X77.here hx rfl (hb hby at_153) rfl rfl k_) ?_
    show own_Go p e below _ T77 (mkF m 155 #[.val (.int x1), .val (.long y1), .second, .val (.long y2), .second, .val (.long y3), .second, .val (.int x2), .val (.int x3), .val (.int (3 : Int32)), .val (.long ((y1 &&& (7 : Int64)) - (4 : Int64))), .second, .val (.long (((y1 &&& (7 : Int64)) - (4 : Int64)) + ((y1 >>> ((3 : Int32).toInt64 &&& 63)) &&& (3 : Int64)))), .second, .val (.long ((((y1 &&& (7 : Int64)) - (4 : Int64)) + ((y1 >>> ((3 : Int32).toInt64 &&& 63)) &&& (3 : Int64))) + ((y1 >>> ((5 : Int32).toInt64 &&& 63)) &&& (3 : Int64)))), .second, .val (.int (x2 + (x3 &&& (1 : Int32)))), .val (.int (x2 + ((x3 >>> ((1 : Int32) &&& 31)) &&& (1 : Int32)))), .val (.int (x2 + ((x3 >>> ((2 : Int32) &&& 31)) &&& (1 : Int32)))), .val (.ref b1), .val (.ref b5), .val (.ref b8), .val (.ref b12), .val (.ref b17), .val (.int (1 : Int32))] [(.ref b17)])
    refine own_by (fun t_ k_ => XT.lload X77.here hx rfl (hb hby at_155) rfl k_) ?_
    show own_Go p e below _ T77 (mkF m 157 #[.val (.int x1), .val (.long y1), .second, .val (.long y2), .second, .val (.long y3), .second, .val (.int x2), .val (.int x3), .val (.int (3 : Int32)), .val (.long ((y1 &&& (7 : Int64)) - (4 : Int64))), .second, .val (.long (((y1 &&& (7 : Int64)) - (4 : Int64)) + ((y1 >>> ((3 : Int32).toInt64 &&& 63)) &&& (3 : Int64)))), .second, .val (.long ((((y1 &&& (7 : Int64)) - (4 : Int64)) + ((y1 >>> ((3 : Int32).toInt64 &&& 63)) &&& (3 : Int64))) + ((y1 >>> ((5 : Int32).toInt64 &&& 63)) &&& (3 : Int64)))), .second, .val (.int (x2 + (x3 &&& (1 : Int32)))), .val (.int (x2 + ((x3 >>> ((1 : Int32) &&& 31)) &&& (1 : Int32)))), .val (.int (x2 + ((x3 >>> ((2 : Int32) &&& 31)) &&& (1 : Int32)))), .val (.ref b1), .val (.ref b5), .val (.ref b8), .val (.ref b12), .val (.ref b17), .val (.int (1 : Int32))] [(.long (((y1 &&& (7 : Int64)) - (4 : Int64)) + ((y1 >>> ((3 : Int32).toInt64 &&& 63)) &&& (3 : Int64)))), (.ref b17)])
    refine own_by (fun t_ k_ => XS.iload X77.here hx rfl (hb hby at_157) rfl k_) ?_
    show own_Go p e below _ T77 (mkF m 159 #[.val (.int x1), .val (.long y1), .second, .val (.long y2), .second, .val (.long y3), .second, .val (.int x2), .val (.int x3), .val (.int (3 : Int32)), .val (.long ((y1 &&& (7 : Int64)) - (4 : Int64))), .second, .val (.long (((y1 &&& (7 : Int64)) - (4 : Int64)) + ((y1 >>> ((3 : Int32).toInt64 &&& 63)) &&& (3 : Int64)))), .second, .val (.long ((((y1 &&& (7 : Int64)) - (4 : Int64)) + ((y1 >>> ((3 : Int32).toInt64 &&& 63)) &&& (3 : Int64))) + ((y1 >>> ((5 : Int32).toInt64 &&& 63)) &&& (3 : Int64)))), .second, .val (.int (x2 + (x3 &&& (1 : Int32)))), .val (.int (x2 + ((x3 >>> ((1 : Int32) &&& 31)) &&& (1 : Int32)))), .val (.int (x2 + ((x3 >>> ((2 : Int32) &&& 31)) &&& (1 : Int32)))), .val (.ref b1), .val (.ref b5), .val (.ref b8), .val (.ref b12), .val (.ref b17), .val (.int (1 : Int32))] [(.int (x2 + ((x3 >>> ((1 : Int32) &&& 31)) &&& (1 : Int32)))), (.long (((y1 &&& (7 : Int64)) - (4 : Int64)) + ((y1 >>> ((3 : Int32).toInt64 &&& 63)) &&& (3 : Int64)))), (.ref b17)])
    refine own_by (fun t_ k_ => XS.aload X77.here hx rfl (hb hby at_159) rfl rfl k_) ?_
    show own_Go p e below _ T77 (mkF m 161 #[.val (.int x1), .val (.long y1), .second, .val (.long y2), .second, .val (.long y3), .second, .val (.int x2), .val (.int x3), .val (.int (3 : Int32)), .val (.long ((y1 &&& (7 : Int64)) - (4 : Int64))), .second, .val (.long (((y1 &&& (7 : Int64)) - (4 : Int64)) + ((y1 >>> ((3 : Int32).toInt64 &&& 63)) &&& (3 : Int64)))), .second, .val (.long ((((y1 &&& (7 : Int64)) - (4 : Int64)) + ((y1 >>> ((3 : Int32).toInt64 &&& 63)) &&& (3 : Int64))) + ((y1 >>> ((5 : Int32).toInt64 &&& 63)) &&& (3 : Int64)))), .second, .val (.int (x2 + (x3 &&& (1 : Int32)))), .val (.int (x2 + ((x3 >>> ((1 : Int32) &&& 31)) &&& (1 : Int32)))), .val (.int (x2 + ((x3 >>> ((2 : Int32) &&& 31)) &&& (1 : Int32)))), .val (.ref b1), .val (.ref b5), .val (.ref b8), .val (.ref b12), .val (.ref b17), .val (.int (1 : Int32))] [(.ref b8), (.int (x2 + ((x3 >>> ((1 : Int32) &&& 31)) &&& (1 : Int32)))), (.long (((y1 &&& (7 : Int64)) - (4 : Int64)) + ((y1 >>> ((3 : Int32).toInt64 &&& 63)) &&& (3 : Int64)))), (.ref b17)])
    refine own_callV (W := 0) X77 hx hZ (y := (⟨"com/example/hedgewalk/hedgewalk/eval/GoalQueue", "add", "(JILcom/example/hedgewalk/hedgewalk/eval/Verdict$Listener;)V"⟩ : MethodName)) (z := (⟨"com/example/hedgewalk/hedgewalk/eval/GoalQueue", "add", "(JILcom/example/hedgewalk/hedgewalk/eval/Verdict$Listener;)V"⟩ : MethodName)) hown (own_w hw 101 rfl) (own_w hw 102 rfl) (notFace_of_selects (args := #[]) (mvT hZ (own_w hw 104 rfl))) (own_w hw 104 rfl) (own_w hw 103 rfl) (own_w hw 52 rfl) (own_w hw 105 rfl) (by decide) (by rw [hml]; rfl) (argsL := [(.long (((y1 &&& (7 : Int64)) - (4 : Int64)) + ((y1 >>> ((3 : Int32).toInt64 &&& 63)) &&& (3 : Int64)))), (.int (x2 + ((x3 >>> ((1 : Int32) &&& 31)) &&& (1 : Int32)))), (.ref b8)]) pd_9 rfl (a := b17) rfl Eq78 (rm16 l Z a0 hw [] b17 (((y1 &&& (7 : Int64)) - (4 : Int64)) + ((y1 >>> ((3 : Int32).toInt64 &&& 63)) &&& (3 : Int64))) (x2 + ((x3 >>> ((1 : Int32) &&& 31)) &&& (1 : Int32))) b8 aH aF bk bh bg b1 ([b5, b8, b12] : List Addr) ([b5] : List Addr) ([b5] : List Addr) ([b8, b12] : List Addr) 1 0 ([b12] : List Addr) T77.heap n0 sz78_ HW78_ (by decide) rfl (by simp) (ninS (Nat.ne_of_lt lt_b8_b12) nin0) (ninS (Ne.symm (Nat.ne_of_lt lt_b5_b8)) nin0)) (by decide) (by decide) (Nat.le_of_eq rfl) (by decide) (by decide) (rest := []) rfl (hb hby at_161) ?_
    intro v79 T79 L79 X79 hQ79
    obtain ⟨rfl, N79q, HX79⟩ := hQ79
    have N79 := Fr.app N77 N79q
    have HW80_ : own_W Z T79.heap n0 aH aF b17 bk bh bg b1 ([b5, b8, b12] : List Addr) ([b5, b8] : List Addr) ([b5, b8] : List Addr) ([b12] : List Addr) 2 0 := HX79
    have Eq80 := HW80_.exa
    have sz80_ := HW80_.sz
    show own_Go p e below _ T79 (mkF m 164 #[.val (.int x1), .val (.long y1), .second, .val (.long y2), .second, .val (.long y3), .second, .val (.int x2), .val (.int x3), .val (.int (3 : Int32)), .val (.long ((y1 &&& (7 : Int64)) - (4 : Int64))), .second, .val (.long (((y1 &&& (7 : Int64)) - (4 : Int64)) + ((y1 >>> ((3 : Int32).toInt64 &&& 63)) &&& (3 : Int64)))), .second, .val (.long ((((y1 &&& (7 : Int64)) - (4 : Int64)) + ((y1 >>> ((3 : Int32).toInt64 &&& 63)) &&& (3 : Int64))) + ((y1 >>> ((5 : Int32).toInt64 &&& 63)) &&& (3 : Int64)))), .second, .val (.int (x2 + (x3 &&& (1 : Int32)))), .val (.int (x2 + ((x3 >>> ((1 : Int32) &&& 31)) &&& (1 : Int32)))), .val (.int (x2 + ((x3 >>> ((2 : Int32) &&& 31)) &&& (1 : Int32)))), .val (.ref b1), .val (.ref b5), .val (.ref b8), .val (.ref b12), .val (.ref b17), .val (.int (1 : Int32))] [])
    refine own_by (fun t_ k_ => XS.iload X79.here hx rfl (hb hby at_164) rfl k_) ?_
    show own_Go p e below _ T79 (mkF m 166 #[.val (.int x1), .val (.long y1), .second, .val (.long y2), .second, .val (.long y3), .second, .val (.int x2), .val (.int x3), .val (.int (3 : Int32)), .val (.long ((y1 &&& (7 : Int64)) - (4 : Int64))), .second, .val (.long (((y1 &&& (7 : Int64)) - (4 : Int64)) + ((y1 >>> ((3 : Int32).toInt64 &&& 63)) &&& (3 : Int64)))), .second, .val (.long ((((y1 &&& (7 : Int64)) - (4 : Int64)) + ((y1 >>> ((3 : Int32).toInt64 &&& 63)) &&& (3 : Int64))) + ((y1 >>> ((5 : Int32).toInt64 &&& 63)) &&& (3 : Int64)))), .second, .val (.int (x2 + (x3 &&& (1 : Int32)))), .val (.int (x2 + ((x3 >>> ((1 : Int32) &&& 31)) &&& (1 : Int32)))), .val (.int (x2 + ((x3 >>> ((2 : Int32) &&& 31)) &&& (1 : Int32)))), .val (.ref b1), .val (.ref b5), .val (.ref b8), .val (.ref b12), .val (.ref b17), .val (.int (1 : Int32))] [(.int (3 : Int32))])
    refine own_by (fun t_ k_ => XS.iconst X79.here hx rfl (hb hby at_166) k_) ?_
    show own_Go p e below _ T79 (mkF m 167 #[.val (.int x1), .val (.long y1), .second, .val (.long y2), .second, .val (.long y3), .second, .val (.int x2), .val (.int x3), .val (.int (3 : Int32)), .val (.long ((y1 &&& (7 : Int64)) - (4 : Int64))), .second, .val (.long (((y1 &&& (7 : Int64)) - (4 : Int64)) + ((y1 >>> ((3 : Int32).toInt64 &&& 63)) &&& (3 : Int64)))), .second, .val (.long ((((y1 &&& (7 : Int64)) - (4 : Int64)) + ((y1 >>> ((3 : Int32).toInt64 &&& 63)) &&& (3 : Int64))) + ((y1 >>> ((5 : Int32).toInt64 &&& 63)) &&& (3 : Int64)))), .second, .val (.int (x2 + (x3 &&& (1 : Int32)))), .val (.int (x2 + ((x3 >>> ((1 : Int32) &&& 31)) &&& (1 : Int32)))), .val (.int (x2 + ((x3 >>> ((2 : Int32) &&& 31)) &&& (1 : Int32)))), .val (.ref b1), .val (.ref b5), .val (.ref b8), .val (.ref b12), .val (.ref b17), .val (.int (1 : Int32))] [(.int (2 : Int32)), (.int (3 : Int32))])
    refine own_icmp X79 hx 181 (hb hby at_167) (by decide) (by decide) (fun hc => absurd (show (2 : Int32) < (3 : Int32) from by decide) (by first | exact hc | exact not_not_intro hc)) (fun _ => ?_)
    show own_Go p e below _ T79 (mkF m 170 #[.val (.int x1), .val (.long y1), .second, .val (.long y2), .second, .val (.long y3), .second, .val (.int x2), .val (.int x3), .val (.int (3 : Int32)), .val (.long ((y1 &&& (7 : Int64)) - (4 : Int64))), .second, .val (.long (((y1 &&& (7 : Int64)) - (4 : Int64)) + ((y1 >>> ((3 : Int32).toInt64 &&& 63)) &&& (3 : Int64)))), .second, .val (.long ((((y1 &&& (7 : Int64)) - (4 : Int64)) + ((y1 >>> ((3 : Int32).toInt64 &&& 63)) &&& (3 : Int64))) + ((y1 >>> ((5 : Int32).toInt64 &&& 63)) &&& (3 : Int64)))), .second, .val (.int (x2 + (x3 &&& (1 : Int32)))), .val (.int (x2 + ((x3 >>> ((1 : Int32) &&& 31)) &&& (1 : Int32)))), .val (.int (x2 + ((x3 >>> ((2 : Int32) &&& 31)) &&& (1 : Int32)))), .val (.ref b1), .val (.ref b5), .val (.ref b8), .val (.ref b12), .val (.ref b17), .val (.int (1 : Int32))] [])
    refine own_by (fun t_ k_ => XS.aload X79.here hx rfl (hb hby at_170) rfl rfl k_) ?_
    show own_Go p e below _ T79 (mkF m 172 #[.val (.int x1), .val (.long y1), .second, .val (.long y2), .second, .val (.long y3), .second, .val (.int x2), .val (.int x3), .val (.int (3 : Int32)), .val (.long ((y1 &&& (7 : Int64)) - (4 : Int64))), .second, .val (.long (((y1 &&& (7 : Int64)) - (4 : Int64)) + ((y1 >>> ((3 : Int32).toInt64 &&& 63)) &&& (3 : Int64)))), .second, .val (.long ((((y1 &&& (7 : Int64)) - (4 : Int64)) + ((y1 >>> ((3 : Int32).toInt64 &&& 63)) &&& (3 : Int64))) + ((y1 >>> ((5 : Int32).toInt64 &&& 63)) &&& (3 : Int64)))), .second, .val (.int (x2 + (x3 &&& (1 : Int32)))), .val (.int (x2 + ((x3 >>> ((1 : Int32) &&& 31)) &&& (1 : Int32)))), .val (.int (x2 + ((x3 >>> ((2 : Int32) &&& 31)) &&& (1 : Int32)))), .val (.ref b1), .val (.ref b5), .val (.ref b8), .val (.ref b12), .val (.ref b17), .val (.int (1 : Int32))] [(.ref b17)])
    refine own_by (fun t_ k_ => XT.lload X79.here hx rfl (hb hby at_172) rfl k_) ?_
    show own_Go p e below _ T79 (mkF m 174 #[.val (.int x1), .val (.long y1), .second, .val (.long y2), .second, .val (.long y3), .second, .val (.int x2), .val (.int x3), .val (.int (3 : Int32)), .val (.long ((y1 &&& (7 : Int64)) - (4 : Int64))), .second, .val (.long (((y1 &&& (7 : Int64)) - (4 : Int64)) + ((y1 >>> ((3 : Int32).toInt64 &&& 63)) &&& (3 : Int64)))), .second, .val (.long ((((y1 &&& (7 : Int64)) - (4 : Int64)) + ((y1 >>> ((3 : Int32).toInt64 &&& 63)) &&& (3 : Int64))) + ((y1 >>> ((5 : Int32).toInt64 &&& 63)) &&& (3 : Int64)))), .second, .val (.int (x2 + (x3 &&& (1 : Int32)))), .val (.int (x2 + ((x3 >>> ((1 : Int32) &&& 31)) &&& (1 : Int32)))), .val (.int (x2 + ((x3 >>> ((2 : Int32) &&& 31)) &&& (1 : Int32)))), .val (.ref b1), .val (.ref b5), .val (.ref b8), .val (.ref b12), .val (.ref b17), .val (.int (1 : Int32))] [(.long ((((y1 &&& (7 : Int64)) - (4 : Int64)) + ((y1 >>> ((3 : Int32).toInt64 &&& 63)) &&& (3 : Int64))) + ((y1 >>> ((5 : Int32).toInt64 &&& 63)) &&& (3 : Int64)))), (.ref b17)])
    refine own_by (fun t_ k_ => XS.iload X79.here hx rfl (hb hby at_174) rfl k_) ?_
    show own_Go p e below _ T79 (mkF m 176 #[.val (.int x1), .val (.long y1), .second, .val (.long y2), .second, .val (.long y3), .second, .val (.int x2), .val (.int x3), .val (.int (3 : Int32)), .val (.long ((y1 &&& (7 : Int64)) - (4 : Int64))), .second, .val (.long (((y1 &&& (7 : Int64)) - (4 : Int64)) + ((y1 >>> ((3 : Int32).toInt64 &&& 63)) &&& (3 : Int64)))), .second, .val (.long ((((y1 &&& (7 : Int64)) - (4 : Int64)) + ((y1 >>> ((3 : Int32).toInt64 &&& 63)) &&& (3 : Int64))) + ((y1 >>> ((5 : Int32).toInt64 &&& 63)) &&& (3 : Int64)))), .second, .val (.int (x2 + (x3 &&& (1 : Int32)))), .val (.int (x2 + ((x3 >>> ((1 : Int32) &&& 31)) &&& (1 : Int32)))), .val (.int (x2 + ((x3 >>> ((2 : Int32) &&& 31)) &&& (1 : Int32)))), .val (.ref b1), .val (.ref b5), .val (.ref b8), .val (.ref b12), .val (.ref b17), .val (.int (1 : Int32))] [(.int (x2 + ((x3 >>> ((2 : Int32) &&& 31)) &&& (1 : Int32)))), (.long ((((y1 &&& (7 : Int64)) - (4 : Int64)) + ((y1 >>> ((3 : Int32).toInt64 &&& 63)) &&& (3 : Int64))) + ((y1 >>> ((5 : Int32).toInt64 &&& 63)) &&& (3 : Int64)))), (.ref b17)])
    refine own_by (fun t_ k_ => XS.aload X79.here hx rfl (hb hby at_176) rfl rfl k_) ?_
    show own_Go p e below _ T79 (mkF m 178 #[.val (.int x1), .val (.long y1), .second, .val (.long y2), .second, .val (.long y3), .second, .val (.int x2), .val (.int x3), .val (.int (3 : Int32)), .val (.long ((y1 &&& (7 : Int64)) - (4 : Int64))), .second, .val (.long (((y1 &&& (7 : Int64)) - (4 : Int64)) + ((y1 >>> ((3 : Int32).toInt64 &&& 63)) &&& (3 : Int64)))), .second, .val (.long ((((y1 &&& (7 : Int64)) - (4 : Int64)) + ((y1 >>> ((3 : Int32).toInt64 &&& 63)) &&& (3 : Int64))) + ((y1 >>> ((5 : Int32).toInt64 &&& 63)) &&& (3 : Int64)))), .second, .val (.int (x2 + (x3 &&& (1 : Int32)))), .val (.int (x2 + ((x3 >>> ((1 : Int32) &&& 31)) &&& (1 : Int32)))), .val (.int (x2 + ((x3 >>> ((2 : Int32) &&& 31)) &&& (1 : Int32)))), .val (.ref b1), .val (.ref b5), .val (.ref b8), .val (.ref b12), .val (.ref b17), .val (.int (1 : Int32))] [(.ref b12), (.int (x2 + ((x3 >>> ((2 : Int32) &&& 31)) &&& (1 : Int32)))), (.long ((((y1 &&& (7 : Int64)) - (4 : Int64)) + ((y1 >>> ((3 : Int32).toInt64 &&& 63)) &&& (3 : Int64))) + ((y1 >>> ((5 : Int32).toInt64 &&& 63)) &&& (3 : Int64)))), (.ref b17)])
    refine own_callV (W := 0) X79 hx hZ (y := (⟨"com/example/hedgewalk/hedgewalk/eval/GoalQueue", "add", "(JILcom/example/hedgewalk/hedgewalk/eval/Verdict$Listener;)V"⟩ : MethodName)) (z := (⟨"com/example/hedgewalk/hedgewalk/eval/GoalQueue", "add", "(JILcom/example/hedgewalk/hedgewalk/eval/Verdict$Listener;)V"⟩ : MethodName)) hown (own_w hw 101 rfl) (own_w hw 102 rfl) (notFace_of_selects (args := #[]) (mvT hZ (own_w hw 104 rfl))) (own_w hw 104 rfl) (own_w hw 103 rfl) (own_w hw 52 rfl) (own_w hw 105 rfl) (by decide) (by rw [hml]; rfl) (argsL := [(.long ((((y1 &&& (7 : Int64)) - (4 : Int64)) + ((y1 >>> ((3 : Int32).toInt64 &&& 63)) &&& (3 : Int64))) + ((y1 >>> ((5 : Int32).toInt64 &&& 63)) &&& (3 : Int64)))), (.int (x2 + ((x3 >>> ((2 : Int32) &&& 31)) &&& (1 : Int32)))), (.ref b12)]) pd_9 rfl (a := b17) rfl Eq80 (rm16 l Z a0 hw [] b17 ((((y1 &&& (7 : Int64)) - (4 : Int64)) + ((y1 >>> ((3 : Int32).toInt64 &&& 63)) &&& (3 : Int64))) + ((y1 >>> ((5 : Int32).toInt64 &&& 63)) &&& (3 : Int64))) (x2 + ((x3 >>> ((2 : Int32) &&& 31)) &&& (1 : Int32))) b12 aH aF bk bh bg b1 ([b5, b8, b12] : List Addr) ([b5, b8] : List Addr) ([b5, b8] : List Addr) ([b12] : List Addr) 2 0 ([] : List Addr) T79.heap n0 sz80_ HW80_ (by decide) rfl (by simp) nin0 (ninS (Ne.symm (Nat.ne_of_lt lt_b5_b12)) (ninS (Ne.symm (Nat.ne_of_lt lt_b8_b12)) nin0))) (by decide) (by decide) (Nat.le_of_eq rfl) (by decide) (by decide) (rest := []) rfl (hb hby at_178) ?_
    intro v81 T81 L81 X81 hQ81
    obtain ⟨rfl, N81q, HX81⟩ := hQ81
    have N81 := Fr.app N79 N81q
    have HW82_ : own_W Z T81.heap n0 aH aF b17 bk bh bg b1 ([b5, b8, b12] : List Addr) ([b5, b8, b12] : List Addr) ([b5, b8, b12] : List Addr) ([] : List Addr) 3 0 := HX81
    have Eq82 := HW82_.exa
    have sz82_ := HW82_.sz
    show own_Go p e below _ T81 (mkF m 181 #[.val (.int x1), .val (.long y1), .second, .val (.long y2), .second, .val (.long y3), .second, .val (.int x2), .val (.int x3), .val (.int (3 : Int32)), .val (.long ((y1 &&& (7 : Int64)) - (4 : Int64))), .second, .val (.long (((y1 &&& (7 : Int64)) - (4 : Int64)) + ((y1 >>> ((3 : Int32).toInt64 &&& 63)) &&& (3 : Int64)))), .second, .val (.long ((((y1 &&& (7 : Int64)) - (4 : Int64)) + ((y1 >>> ((3 : Int32).toInt64 &&& 63)) &&& (3 : Int64))) + ((y1 >>> ((5 : Int32).toInt64 &&& 63)) &&& (3 : Int64)))), .second, .val (.int (x2 + (x3 &&& (1 : Int32)))), .val (.int (x2 + ((x3 >>> ((1 : Int32) &&& 31)) &&& (1 : Int32)))), .val (.int (x2 + ((x3 >>> ((2 : Int32) &&& 31)) &&& (1 : Int32)))), .val (.ref b1), .val (.ref b5), .val (.ref b8), .val (.ref b12), .val (.ref b17), .val (.int (1 : Int32))] [])
    refine own_by (fun t_ k_ => XS.iload X81.here hx rfl (hb hby at_181) rfl k_) ?_
    show own_Go p e below _ T81 (mkF m 183 #[.val (.int x1), .val (.long y1), .second, .val (.long y2), .second, .val (.long y3), .second, .val (.int x2), .val (.int x3), .val (.int (3 : Int32)), .val (.long ((y1 &&& (7 : Int64)) - (4 : Int64))), .second, .val (.long (((y1 &&& (7 : Int64)) - (4 : Int64)) + ((y1 >>> ((3 : Int32).toInt64 &&& 63)) &&& (3 : Int64)))), .second, .val (.long ((((y1 &&& (7 : Int64)) - (4 : Int64)) + ((y1 >>> ((3 : Int32).toInt64 &&& 63)) &&& (3 : Int64))) + ((y1 >>> ((5 : Int32).toInt64 &&& 63)) &&& (3 : Int64)))), .second, .val (.int (x2 + (x3 &&& (1 : Int32)))), .val (.int (x2 + ((x3 >>> ((1 : Int32) &&& 31)) &&& (1 : Int32)))), .val (.int (x2 + ((x3 >>> ((2 : Int32) &&& 31)) &&& (1 : Int32)))), .val (.ref b1), .val (.ref b5), .val (.ref b8), .val (.ref b12), .val (.ref b17), .val (.int (1 : Int32))] [(.int (1 : Int32))])
    refine own_if X81 hx 208 (hb hby at_183) (by decide) (by decide) (fun hc => absurd (show ¬ (1 : Int32) = (0 : Int32) from by decide) (by first | exact hc | exact not_not_intro hc)) (fun _ => ?_)
    show own_Go p e below _ T81 (mkF m 186 #[.val (.int x1), .val (.long y1), .second, .val (.long y2), .second, .val (.long y3), .second, .val (.int x2), .val (.int x3), .val (.int (3 : Int32)), .val (.long ((y1 &&& (7 : Int64)) - (4 : Int64))), .second, .val (.long (((y1 &&& (7 : Int64)) - (4 : Int64)) + ((y1 >>> ((3 : Int32).toInt64 &&& 63)) &&& (3 : Int64)))), .second, .val (.long ((((y1 &&& (7 : Int64)) - (4 : Int64)) + ((y1 >>> ((3 : Int32).toInt64 &&& 63)) &&& (3 : Int64))) + ((y1 >>> ((5 : Int32).toInt64 &&& 63)) &&& (3 : Int64)))), .second, .val (.int (x2 + (x3 &&& (1 : Int32)))), .val (.int (x2 + ((x3 >>> ((1 : Int32) &&& 31)) &&& (1 : Int32)))), .val (.int (x2 + ((x3 >>> ((2 : Int32) &&& 31)) &&& (1 : Int32)))), .val (.ref b1), .val (.ref b5), .val (.ref b8), .val (.ref b12), .val (.ref b17), .val (.int (1 : Int32))] [])
    refine own_by (fun t_ k_ => XS.aload X81.here hx rfl (hb hby at_186) rfl rfl k_) ?_
    show own_Go p e below _ T81 (mkF m 188 #[.val (.int x1), .val (.long y1), .second, .val (.long y2), .second, .val (.long y3), .second, .val (.int x2), .val (.int x3), .val (.int (3 : Int32)), .val (.long ((y1 &&& (7 : Int64)) - (4 : Int64))), .second, .val (.long (((y1 &&& (7 : Int64)) - (4 : Int64)) + ((y1 >>> ((3 : Int32).toInt64 &&& 63)) &&& (3 : Int64)))), .second, .val (.long ((((y1 &&& (7 : Int64)) - (4 : Int64)) + ((y1 >>> ((3 : Int32).toInt64 &&& 63)) &&& (3 : Int64))) + ((y1 >>> ((5 : Int32).toInt64 &&& 63)) &&& (3 : Int64)))), .second, .val (.int (x2 + (x3 &&& (1 : Int32)))), .val (.int (x2 + ((x3 >>> ((1 : Int32) &&& 31)) &&& (1 : Int32)))), .val (.int (x2 + ((x3 >>> ((2 : Int32) &&& 31)) &&& (1 : Int32)))), .val (.ref b1), .val (.ref b5), .val (.ref b8), .val (.ref b12), .val (.ref b17), .val (.int (1 : Int32))] [(.ref b17)])
    refine own_callV (W := 0) X81 hx hZ (y := (⟨"com/example/hedgewalk/hedgewalk/eval/GoalQueue", "hasOpen", "()Z"⟩ : MethodName)) (z := (⟨"com/example/hedgewalk/hedgewalk/eval/GoalQueue", "hasOpen", "()Z"⟩ : MethodName)) hown (own_w hw 67 rfl) (own_w hw 68 rfl) (notFace_of_selects (args := #[]) (mvT hZ (own_w hw 70 rfl))) (own_w hw 70 rfl) (own_w hw 69 rfl) (own_w hw 52 rfl) (own_w hw 71 rfl) (by decide) (by rw [hml]; rfl) (argsL := []) pd_2 rfl (a := b17) rfl Eq82 (rm9 l Z a0 hw [] b17 aH aF bk bh bg b1 ([b5, b8, b12] : List Addr) ([b5, b8, b12] : List Addr) ([b5, b8, b12] : List Addr) ([] : List Addr) 3 0 T81.heap n0 sz82_ HW82_) (by decide) (by decide) (Nat.le_of_eq rfl) (by decide) (by decide) (rest := []) rfl (hb hby at_188) ?_
    intro v83 T83 L83 X83 hQ83
    obtain ⟨rfl, N83q, e83⟩ := hQ83
    have N83 := Fr.app N81 N83q
    show own_Go p e below _ T83 (mkF m 191 #[.val (.int x1), .val (.long y1), .second, .val (.long y2), .second, .val (.long y3), .second, .val (.int x2), .val (.int x3), .val (.int (3 : Int32)), .val (.long ((y1 &&& (7 : Int64)) - (4 : Int64))), .second, .val (.long (((y1 &&& (7 : Int64)) - (4 : Int64)) + ((y1 >>> ((3 : Int32).toInt64 &&& 63)) &&& (3 : Int64)))), .second, .val (.long ((((y1 &&& (7 : Int64)) - (4 : Int64)) + ((y1 >>> ((3 : Int32).toInt64 &&& 63)) &&& (3 : Int64))) + ((y1 >>> ((5 : Int32).toInt64 &&& 63)) &&& (3 : Int64)))), .second, .val (.int (x2 + (x3 &&& (1 : Int32)))), .val (.int (x2 + ((x3 >>> ((1 : Int32) &&& 31)) &&& (1 : Int32)))), .val (.int (x2 + ((x3 >>> ((2 : Int32) &&& 31)) &&& (1 : Int32)))), .val (.ref b1), .val (.ref b5), .val (.ref b8), .val (.ref b12), .val (.ref b17), .val (.int (1 : Int32))] [(.int (own_h ([b5, b8, b12] : List Addr)))])
    refine own_by (fun t_ k_ => XS.iload X83.here hx rfl (hb hby at_191) rfl k_) ?_
    show own_Go p e below _ T83 (mkF m 193 #[.val (.int x1), .val (.long y1), .second, .val (.long y2), .second, .val (.long y3), .second, .val (.int x2), .val (.int x3), .val (.int (3 : Int32)), .val (.long ((y1 &&& (7 : Int64)) - (4 : Int64))), .second, .val (.long (((y1 &&& (7 : Int64)) - (4 : Int64)) + ((y1 >>> ((3 : Int32).toInt64 &&& 63)) &&& (3 : Int64)))), .second, .val (.long ((((y1 &&& (7 : Int64)) - (4 : Int64)) + ((y1 >>> ((3 : Int32).toInt64 &&& 63)) &&& (3 : Int64))) + ((y1 >>> ((5 : Int32).toInt64 &&& 63)) &&& (3 : Int64)))), .second, .val (.int (x2 + (x3 &&& (1 : Int32)))), .val (.int (x2 + ((x3 >>> ((1 : Int32) &&& 31)) &&& (1 : Int32)))), .val (.int (x2 + ((x3 >>> ((2 : Int32) &&& 31)) &&& (1 : Int32)))), .val (.ref b1), .val (.ref b5), .val (.ref b8), .val (.ref b12), .val (.ref b17), .val (.int (1 : Int32))] [(.int (3 : Int32)), (.int (own_h ([b5, b8, b12] : List Addr)))])
    refine own_if X83 hx 200 (hb hby at_193) (by decide) (by decide) (fun hc => absurd (show (0 : Int32) < (3 : Int32) from by decide) (by first | exact hc | exact not_not_intro hc)) (fun _ => ?_)
    show own_Go p e below _ T83 (mkF m 196 #[.val (.int x1), .val (.long y1), .second, .val (.long y2), .second, .val (.long y3), .second, .val (.int x2), .val (.int x3), .val (.int (3 : Int32)), .val (.long ((y1 &&& (7 : Int64)) - (4 : Int64))), .second, .val (.long (((y1 &&& (7 : Int64)) - (4 : Int64)) + ((y1 >>> ((3 : Int32).toInt64 &&& 63)) &&& (3 : Int64)))), .second, .val (.long ((((y1 &&& (7 : Int64)) - (4 : Int64)) + ((y1 >>> ((3 : Int32).toInt64 &&& 63)) &&& (3 : Int64))) + ((y1 >>> ((5 : Int32).toInt64 &&& 63)) &&& (3 : Int64)))), .second, .val (.int (x2 + (x3 &&& (1 : Int32)))), .val (.int (x2 + ((x3 >>> ((1 : Int32) &&& 31)) &&& (1 : Int32)))), .val (.int (x2 + ((x3 >>> ((2 : Int32) &&& 31)) &&& (1 : Int32)))), .val (.ref b1), .val (.ref b5), .val (.ref b8), .val (.ref b12), .val (.ref b17), .val (.int (1 : Int32))] [(.int (own_h ([b5, b8, b12] : List Addr)))])
    refine own_by (fun t_ k_ => XS.iconst X83.here hx rfl (hb hby at_196) k_) ?_
    show own_Go p e below _ T83 (mkF m 197 #[.val (.int x1), .val (.long y1), .second, .val (.long y2), .second, .val (.long y3), .second, .val (.int x2), .val (.int x3), .val (.int (3 : Int32)), .val (.long ((y1 &&& (7 : Int64)) - (4 : Int64))), .second, .val (.long (((y1 &&& (7 : Int64)) - (4 : Int64)) + ((y1 >>> ((3 : Int32).toInt64 &&& 63)) &&& (3 : Int64)))), .second, .val (.long ((((y1 &&& (7 : Int64)) - (4 : Int64)) + ((y1 >>> ((3 : Int32).toInt64 &&& 63)) &&& (3 : Int64))) + ((y1 >>> ((5 : Int32).toInt64 &&& 63)) &&& (3 : Int64)))), .second, .val (.int (x2 + (x3 &&& (1 : Int32)))), .val (.int (x2 + ((x3 >>> ((1 : Int32) &&& 31)) &&& (1 : Int32)))), .val (.int (x2 + ((x3 >>> ((2 : Int32) &&& 31)) &&& (1 : Int32)))), .val (.ref b1), .val (.ref b5), .val (.ref b8), .val (.ref b12), .val (.ref b17), .val (.int (1 : Int32))] [(.int (1 : Int32)), (.int (own_h ([b5, b8, b12] : List Addr)))])
    refine own_by (fun t_ k_ => XS.goto X83.here hx rfl (pc0 := 197) (pc' := 201) rfl (hb hby at_197) (by decide) (by decide) k_) ?_
    show own_Go p e below _ T83 (mkF m 201 #[.val (.int x1), .val (.long y1), .second, .val (.long y2), .second, .val (.long y3), .second, .val (.int x2), .val (.int x3), .val (.int (3 : Int32)), .val (.long ((y1 &&& (7 : Int64)) - (4 : Int64))), .second, .val (.long (((y1 &&& (7 : Int64)) - (4 : Int64)) + ((y1 >>> ((3 : Int32).toInt64 &&& 63)) &&& (3 : Int64)))), .second, .val (.long ((((y1 &&& (7 : Int64)) - (4 : Int64)) + ((y1 >>> ((3 : Int32).toInt64 &&& 63)) &&& (3 : Int64))) + ((y1 >>> ((5 : Int32).toInt64 &&& 63)) &&& (3 : Int64)))), .second, .val (.int (x2 + (x3 &&& (1 : Int32)))), .val (.int (x2 + ((x3 >>> ((1 : Int32) &&& 31)) &&& (1 : Int32)))), .val (.int (x2 + ((x3 >>> ((2 : Int32) &&& 31)) &&& (1 : Int32)))), .val (.ref b1), .val (.ref b5), .val (.ref b8), .val (.ref b12), .val (.ref b17), .val (.int (1 : Int32))] [(.int (1 : Int32)), (.int (own_h ([b5, b8, b12] : List Addr)))])
    refine own_icmp X83 hx 208 (hb hby at_201) (by decide) (by decide) (fun hc => absurd (show (own_h ([b5, b8, b12] : List Addr)) = (1 : Int32) from own_hm (x := b5) (by simp)) (by first | exact hc | exact not_not_intro hc)) (fun _ => ?_)
    show own_Go p e below _ T83 (mkF m 204 #[.val (.int x1), .val (.long y1), .second, .val (.long y2), .second, .val (.long y3), .second, .val (.int x2), .val (.int x3), .val (.int (3 : Int32)), .val (.long ((y1 &&& (7 : Int64)) - (4 : Int64))), .second, .val (.long (((y1 &&& (7 : Int64)) - (4 : Int64)) + ((y1 >>> ((3 : Int32).toInt64 &&& 63)) &&& (3 : Int64)))), .second, .val (.long ((((y1 &&& (7 : Int64)) - (4 : Int64)) + ((y1 >>> ((3 : Int32).toInt64 &&& 63)) &&& (3 : Int64))) + ((y1 >>> ((5 : Int32).toInt64 &&& 63)) &&& (3 : Int64)))), .second, .val (.int (x2 + (x3 &&& (1 : Int32)))), .val (.int (x2 + ((x3 >>> ((1 : Int32) &&& 31)) &&& (1 : Int32)))), .val (.int (x2 + ((x3 >>> ((2 : Int32) &&& 31)) &&& (1 : Int32)))), .val (.ref b1), .val (.ref b5), .val (.ref b8), .val (.ref b12), .val (.ref b17), .val (.int (1 : Int32))] [])
    refine own_by (fun t_ k_ => XS.iconst X83.here hx rfl (hb hby at_204) k_) ?_
    show own_Go p e below _ T83 (mkF m 205 #[.val (.int x1), .val (.long y1), .second, .val (.long y2), .second, .val (.long y3), .second, .val (.int x2), .val (.int x3), .val (.int (3 : Int32)), .val (.long ((y1 &&& (7 : Int64)) - (4 : Int64))), .second, .val (.long (((y1 &&& (7 : Int64)) - (4 : Int64)) + ((y1 >>> ((3 : Int32).toInt64 &&& 63)) &&& (3 : Int64)))), .second, .val (.long ((((y1 &&& (7 : Int64)) - (4 : Int64)) + ((y1 >>> ((3 : Int32).toInt64 &&& 63)) &&& (3 : Int64))) + ((y1 >>> ((5 : Int32).toInt64 &&& 63)) &&& (3 : Int64)))), .second, .val (.int (x2 + (x3 &&& (1 : Int32)))), .val (.int (x2 + ((x3 >>> ((1 : Int32) &&& 31)) &&& (1 : Int32)))), .val (.int (x2 + ((x3 >>> ((2 : Int32) &&& 31)) &&& (1 : Int32)))), .val (.ref b1), .val (.ref b5), .val (.ref b8), .val (.ref b12), .val (.ref b17), .val (.int (1 : Int32))] [(.int (1 : Int32))])
    refine own_by (fun t_ k_ => XS.goto X83.here hx rfl (pc0 := 205) (pc' := 209) rfl (hb hby at_205) (by decide) (by decide) k_) ?_
    show own_Go p e below _ T83 (mkF m 209 #[.val (.int x1), .val (.long y1), .second, .val (.long y2), .second, .val (.long y3), .second, .val (.int x2), .val (.int x3), .val (.int (3 : Int32)), .val (.long ((y1 &&& (7 : Int64)) - (4 : Int64))), .second, .val (.long (((y1 &&& (7 : Int64)) - (4 : Int64)) + ((y1 >>> ((3 : Int32).toInt64 &&& 63)) &&& (3 : Int64)))), .second, .val (.long ((((y1 &&& (7 : Int64)) - (4 : Int64)) + ((y1 >>> ((3 : Int32).toInt64 &&& 63)) &&& (3 : Int64))) + ((y1 >>> ((5 : Int32).toInt64 &&& 63)) &&& (3 : Int64)))), .second, .val (.int (x2 + (x3 &&& (1 : Int32)))), .val (.int (x2 + ((x3 >>> ((1 : Int32) &&& 31)) &&& (1 : Int32)))), .val (.int (x2 + ((x3 >>> ((2 : Int32) &&& 31)) &&& (1 : Int32)))), .val (.ref b1), .val (.ref b5), .val (.ref b8), .val (.ref b12), .val (.ref b17), .val (.int (1 : Int32))] [(.int (1 : Int32))])
    refine own_by (fun t_ k_ => XS.istore X83.here hx rfl (hb hby at_209) rfl (l' := #[.val (.int x1), .val (.long y1), .second, .val (.long y2), .second, .val (.long y3), .second, .val (.int x2), .val (.int x3), .val (.int (3 : Int32)), .val (.long ((y1 &&& (7 : Int64)) - (4 : Int64))), .second, .val (.long (((y1 &&& (7 : Int64)) - (4 : Int64)) + ((y1 >>> ((3 : Int32).toInt64 &&& 63)) &&& (3 : Int64)))), .second, .val (.long ((((y1 &&& (7 : Int64)) - (4 : Int64)) + ((y1 >>> ((3 : Int32).toInt64 &&& 63)) &&& (3 : Int64))) + ((y1 >>> ((5 : Int32).toInt64 &&& 63)) &&& (3 : Int64)))), .second, .val (.int (x2 + (x3 &&& (1 : Int32)))), .val (.int (x2 + ((x3 >>> ((1 : Int32) &&& 31)) &&& (1 : Int32)))), .val (.int (x2 + ((x3 >>> ((2 : Int32) &&& 31)) &&& (1 : Int32)))), .val (.ref b1), .val (.ref b5), .val (.ref b8), .val (.ref b12), .val (.ref b17), .val (.int (1 : Int32))]) rfl k_) ?_
    show own_Go p e below _ T83 (mkF m 211 #[.val (.int x1), .val (.long y1), .second, .val (.long y2), .second, .val (.long y3), .second, .val (.int x2), .val (.int x3), .val (.int (3 : Int32)), .val (.long ((y1 &&& (7 : Int64)) - (4 : Int64))), .second, .val (.long (((y1 &&& (7 : Int64)) - (4 : Int64)) + ((y1 >>> ((3 : Int32).toInt64 &&& 63)) &&& (3 : Int64)))), .second, .val (.long ((((y1 &&& (7 : Int64)) - (4 : Int64)) + ((y1 >>> ((3 : Int32).toInt64 &&& 63)) &&& (3 : Int64))) + ((y1 >>> ((5 : Int32).toInt64 &&& 63)) &&& (3 : Int64)))), .second, .val (.int (x2 + (x3 &&& (1 : Int32)))), .val (.int (x2 + ((x3 >>> ((1 : Int32) &&& 31)) &&& (1 : Int32)))), .val (.int (x2 + ((x3 >>> ((2 : Int32) &&& 31)) &&& (1 : Int32)))), .val (.ref b1), .val (.ref b5), .val (.ref b8), .val (.ref b12), .val (.ref b17), .val (.int (1 : Int32))] [])
    refine own_by (fun t_ k_ => XS.aload X83.here hx rfl (hb hby at_211) rfl rfl k_) ?_
    show own_Go p e below _ T83 (mkF m 213 #[.val (.int x1), .val (.long y1), .second, .val (.long y2), .second, .val (.long y3), .second, .val (.int x2), .val (.int x3), .val (.int (3 : Int32)), .val (.long ((y1 &&& (7 : Int64)) - (4 : Int64))), .second, .val (.long (((y1 &&& (7 : Int64)) - (4 : Int64)) + ((y1 >>> ((3 : Int32).toInt64 &&& 63)) &&& (3 : Int64)))), .second, .val (.long ((((y1 &&& (7 : Int64)) - (4 : Int64)) + ((y1 >>> ((3 : Int32).toInt64 &&& 63)) &&& (3 : Int64))) + ((y1 >>> ((5 : Int32).toInt64 &&& 63)) &&& (3 : Int64)))), .second, .val (.int (x2 + (x3 &&& (1 : Int32)))), .val (.int (x2 + ((x3 >>> ((1 : Int32) &&& 31)) &&& (1 : Int32)))), .val (.int (x2 + ((x3 >>> ((2 : Int32) &&& 31)) &&& (1 : Int32)))), .val (.ref b1), .val (.ref b5), .val (.ref b8), .val (.ref b12), .val (.ref b17), .val (.int (1 : Int32))] [(.ref b17)])
    refine own_by (fun t_ k_ => XS.aload X83.here hx rfl (hb hby at_213) rfl rfl k_) ?_
    show own_Go p e below _ T83 (mkF m 215 #[.val (.int x1), .val (.long y1), .second, .val (.long y2), .second, .val (.long y3), .second, .val (.int x2), .val (.int x3), .val (.int (3 : Int32)), .val (.long ((y1 &&& (7 : Int64)) - (4 : Int64))), .second, .val (.long (((y1 &&& (7 : Int64)) - (4 : Int64)) + ((y1 >>> ((3 : Int32).toInt64 &&& 63)) &&& (3 : Int64)))), .second, .val (.long ((((y1 &&& (7 : Int64)) - (4 : Int64)) + ((y1 >>> ((3 : Int32).toInt64 &&& 63)) &&& (3 : Int64))) + ((y1 >>> ((5 : Int32).toInt64 &&& 63)) &&& (3 : Int64)))), .second, .val (.int (x2 + (x3 &&& (1 : Int32)))), .val (.int (x2 + ((x3 >>> ((1 : Int32) &&& 31)) &&& (1 : Int32)))), .val (.int (x2 + ((x3 >>> ((2 : Int32) &&& 31)) &&& (1 : Int32)))), .val (.ref b1), .val (.ref b5), .val (.ref b8), .val (.ref b12), .val (.ref b17), .val (.int (1 : Int32))] [(.ref b1), (.ref b17)])
    refine own_by (fun t_ k_ => XS.iloadN X83.here hx rfl (hb hby at_215) rfl k_) ?_
    show own_Go p e below _ T83 (mkF m 216 #[.val (.int x1), .val (.long y1), .second, .val (.long y2), .second, .val (.long y3), .second, .val (.int x2), .val (.int x3), .val (.int (3 : Int32)), .val (.long ((y1 &&& (7 : Int64)) - (4 : Int64))), .second, .val (.long (((y1 &&& (7 : Int64)) - (4 : Int64)) + ((y1 >>> ((3 : Int32).toInt64 &&& 63)) &&& (3 : Int64)))), .second, .val (.long ((((y1 &&& (7 : Int64)) - (4 : Int64)) + ((y1 >>> ((3 : Int32).toInt64 &&& 63)) &&& (3 : Int64))) + ((y1 >>> ((5 : Int32).toInt64 &&& 63)) &&& (3 : Int64)))), .second, .val (.int (x2 + (x3 &&& (1 : Int32)))), .val (.int (x2 + ((x3 >>> ((1 : Int32) &&& 31)) &&& (1 : Int32)))), .val (.int (x2 + ((x3 >>> ((2 : Int32) &&& 31)) &&& (1 : Int32)))), .val (.ref b1), .val (.ref b5), .val (.ref b8), .val (.ref b12), .val (.ref b17), .val (.int (1 : Int32))] [(.int x1), (.ref b1), (.ref b17)])
    refine own_by (fun t_ k_ => XS.iconst X83.here hx rfl (hb hby at_216) k_) ?_
    show own_Go p e below _ T83 (mkF m 217 #[.val (.int x1), .val (.long y1), .second, .val (.long y2), .second, .val (.long y3), .second, .val (.int x2), .val (.int x3), .val (.int (3 : Int32)), .val (.long ((y1 &&& (7 : Int64)) - (4 : Int64))), .second, .val (.long (((y1 &&& (7 : Int64)) - (4 : Int64)) + ((y1 >>> ((3 : Int32).toInt64 &&& 63)) &&& (3 : Int64)))), .second, .val (.long ((((y1 &&& (7 : Int64)) - (4 : Int64)) + ((y1 >>> ((3 : Int32).toInt64 &&& 63)) &&& (3 : Int64))) + ((y1 >>> ((5 : Int32).toInt64 &&& 63)) &&& (3 : Int64)))), .second, .val (.int (x2 + (x3 &&& (1 : Int32)))), .val (.int (x2 + ((x3 >>> ((1 : Int32) &&& 31)) &&& (1 : Int32)))), .val (.int (x2 + ((x3 >>> ((2 : Int32) &&& 31)) &&& (1 : Int32)))), .val (.ref b1), .val (.ref b5), .val (.ref b8), .val (.ref b12), .val (.ref b17), .val (.int (1 : Int32))] [(.int (2 : Int32)), (.int x1), (.ref b1), (.ref b17)])
    refine own_by (fun t_ k_ => XT.ishr X83.here hx rfl (hb hby at_217) rfl k_) ?_
    show own_Go p e below _ T83 (mkF m 218 #[.val (.int x1), .val (.long y1), .second, .val (.long y2), .second, .val (.long y3), .second, .val (.int x2), .val (.int x3), .val (.int (3 : Int32)), .val (.long ((y1 &&& (7 : Int64)) - (4 : Int64))), .second, .val (.long (((y1 &&& (7 : Int64)) - (4 : Int64)) + ((y1 >>> ((3 : Int32).toInt64 &&& 63)) &&& (3 : Int64)))), .second, .val (.long ((((y1 &&& (7 : Int64)) - (4 : Int64)) + ((y1 >>> ((3 : Int32).toInt64 &&& 63)) &&& (3 : Int64))) + ((y1 >>> ((5 : Int32).toInt64 &&& 63)) &&& (3 : Int64)))), .second, .val (.int (x2 + (x3 &&& (1 : Int32)))), .val (.int (x2 + ((x3 >>> ((1 : Int32) &&& 31)) &&& (1 : Int32)))), .val (.int (x2 + ((x3 >>> ((2 : Int32) &&& 31)) &&& (1 : Int32)))), .val (.ref b1), .val (.ref b5), .val (.ref b8), .val (.ref b12), .val (.ref b17), .val (.int (1 : Int32))] [(.int (x1 >>> ((2 : Int32) &&& 31))), (.ref b1), (.ref b17)])
    refine own_by (fun t_ k_ => XS.iloadN X83.here hx rfl (hb hby at_218) rfl k_) ?_
    show own_Go p e below _ T83 (mkF m 219 #[.val (.int x1), .val (.long y1), .second, .val (.long y2), .second, .val (.long y3), .second, .val (.int x2), .val (.int x3), .val (.int (3 : Int32)), .val (.long ((y1 &&& (7 : Int64)) - (4 : Int64))), .second, .val (.long (((y1 &&& (7 : Int64)) - (4 : Int64)) + ((y1 >>> ((3 : Int32).toInt64 &&& 63)) &&& (3 : Int64)))), .second, .val (.long ((((y1 &&& (7 : Int64)) - (4 : Int64)) + ((y1 >>> ((3 : Int32).toInt64 &&& 63)) &&& (3 : Int64))) + ((y1 >>> ((5 : Int32).toInt64 &&& 63)) &&& (3 : Int64)))), .second, .val (.int (x2 + (x3 &&& (1 : Int32)))), .val (.int (x2 + ((x3 >>> ((1 : Int32) &&& 31)) &&& (1 : Int32)))), .val (.int (x2 + ((x3 >>> ((2 : Int32) &&& 31)) &&& (1 : Int32)))), .val (.ref b1), .val (.ref b5), .val (.ref b8), .val (.ref b12), .val (.ref b17), .val (.int (1 : Int32))] [(.int x1), (.int (x1 >>> ((2 : Int32) &&& 31))), (.ref b1), (.ref b17)])
    refine own_by (fun t_ k_ => XS.iconst X83.here hx rfl (hb hby at_219) k_) ?_
    show own_Go p e below _ T83 (mkF m 220 #[.val (.int x1), .val (.long y1), .second, .val (.long y2), .second, .val (.long y3), .second, .val (.int x2), .val (.int x3), .val (.int (3 : Int32)), .val (.long ((y1 &&& (7 : Int64)) - (4 : Int64))), .second, .val (.long (((y1 &&& (7 : Int64)) - (4 : Int64)) + ((y1 >>> ((3 : Int32).toInt64 &&& 63)) &&& (3 : Int64)))), .second, .val (.long ((((y1 &&& (7 : Int64)) - (4 : Int64)) + ((y1 >>> ((3 : Int32).toInt64 &&& 63)) &&& (3 : Int64))) + ((y1 >>> ((5 : Int32).toInt64 &&& 63)) &&& (3 : Int64)))), .second, .val (.int (x2 + (x3 &&& (1 : Int32)))), .val (.int (x2 + ((x3 >>> ((1 : Int32) &&& 31)) &&& (1 : Int32)))), .val (.int (x2 + ((x3 >>> ((2 : Int32) &&& 31)) &&& (1 : Int32)))), .val (.ref b1), .val (.ref b5), .val (.ref b8), .val (.ref b12), .val (.ref b17), .val (.int (1 : Int32))] [(.int (4 : Int32)), (.int x1), (.int (x1 >>> ((2 : Int32) &&& 31))), (.ref b1), (.ref b17)])
    refine own_by (fun t_ k_ => XT.ishr X83.here hx rfl (hb hby at_220) rfl k_) ?_
    show own_Go p e below _ T83 (mkF m 221 #[.val (.int x1), .val (.long y1), .second, .val (.long y2), .second, .val (.long y3), .second, .val (.int x2), .val (.int x3), .val (.int (3 : Int32)), .val (.long ((y1 &&& (7 : Int64)) - (4 : Int64))), .second, .val (.long (((y1 &&& (7 : Int64)) - (4 : Int64)) + ((y1 >>> ((3 : Int32).toInt64 &&& 63)) &&& (3 : Int64)))), .second, .val (.long ((((y1 &&& (7 : Int64)) - (4 : Int64)) + ((y1 >>> ((3 : Int32).toInt64 &&& 63)) &&& (3 : Int64))) + ((y1 >>> ((5 : Int32).toInt64 &&& 63)) &&& (3 : Int64)))), .second, .val (.int (x2 + (x3 &&& (1 : Int32)))), .val (.int (x2 + ((x3 >>> ((1 : Int32) &&& 31)) &&& (1 : Int32)))), .val (.int (x2 + ((x3 >>> ((2 : Int32) &&& 31)) &&& (1 : Int32)))), .val (.ref b1), .val (.ref b5), .val (.ref b8), .val (.ref b12), .val (.ref b17), .val (.int (1 : Int32))] [(.int (x1 >>> ((4 : Int32) &&& 31))), (.int (x1 >>> ((2 : Int32) &&& 31))), (.ref b1), (.ref b17)])
    refine own_by (fun t_ k_ => XT.lloadN X83.here hx rfl (hb hby at_221) rfl k_) ?_
    show own_Go p e below _ T83 (mkF m 222 #[.val (.int x1), .val (.long y1), .second, .val (.long y2), .second, .val (.long y3), .second, .val (.int x2), .val (.int x3), .val (.int (3 : Int32)), .val (.long ((y1 &&& (7 : Int64)) - (4 : Int64))), .second, .val (.long (((y1 &&& (7 : Int64)) - (4 : Int64)) + ((y1 >>> ((3 : Int32).toInt64 &&& 63)) &&& (3 : Int64)))), .second, .val (.long ((((y1 &&& (7 : Int64)) - (4 : Int64)) + ((y1 >>> ((3 : Int32).toInt64 &&& 63)) &&& (3 : Int64))) + ((y1 >>> ((5 : Int32).toInt64 &&& 63)) &&& (3 : Int64)))), .second, .val (.int (x2 + (x3 &&& (1 : Int32)))), .val (.int (x2 + ((x3 >>> ((1 : Int32) &&& 31)) &&& (1 : Int32)))), .val (.int (x2 + ((x3 >>> ((2 : Int32) &&& 31)) &&& (1 : Int32)))), .val (.ref b1), .val (.ref b5), .val (.ref b8), .val (.ref b12), .val (.ref b17), .val (.int (1 : Int32))] [(.long y2), (.int (x1 >>> ((4 : Int32) &&& 31))), (.int (x1 >>> ((2 : Int32) &&& 31))), (.ref b1), (.ref b17)])
    refine own_callS (W := 3) X83 hx hZ (y := (⟨"com/example/hedgewalk/hedgewalk/eval/GoalQueueHasOpenPinLaw", "limit", "(IJ)J"⟩ : MethodName)) hown (own_w hw 76 rfl) (own_w hw 77 rfl) (own_w hw 78 rfl) (own_w hw 79 rfl) (by decide) (by rw [hml]; rfl) (argsL := [(.int (x1 >>> ((4 : Int32) &&& 31))), (.long y2)]) pd_3 rfl (rm10 l Z a0 hw [] (x1 >>> ((4 : Int32) &&& 31)) y2 T81.heap n0 sz82_) (by decide) (by decide) (Nat.le_of_eq rfl) (by decide) (by decide) (rest := [(.int (x1 >>> ((2 : Int32) &&& 31))), (.ref b1), (.ref b17)]) e83 rfl (hb hby at_222) ?_
    intro v84 T84 L84 X84 hQ84
    obtain ⟨z84, rfl, N84q, e84⟩ := hQ84
    have N84 := Fr.app N83 N84q
    show own_Go p e below _ T84 (mkF m 225 #[.val (.int x1), .val (.long y1), .second, .val (.long y2), .second, .val (.long y3), .second, .val (.int x2), .val (.int x3), .val (.int (3 : Int32)), .val (.long ((y1 &&& (7 : Int64)) - (4 : Int64))), .second, .val (.long (((y1 &&& (7 : Int64)) - (4 : Int64)) + ((y1 >>> ((3 : Int32).toInt64 &&& 63)) &&& (3 : Int64)))), .second, .val (.long ((((y1 &&& (7 : Int64)) - (4 : Int64)) + ((y1 >>> ((3 : Int32).toInt64 &&& 63)) &&& (3 : Int64))) + ((y1 >>> ((5 : Int32).toInt64 &&& 63)) &&& (3 : Int64)))), .second, .val (.int (x2 + (x3 &&& (1 : Int32)))), .val (.int (x2 + ((x3 >>> ((1 : Int32) &&& 31)) &&& (1 : Int32)))), .val (.int (x2 + ((x3 >>> ((2 : Int32) &&& 31)) &&& (1 : Int32)))), .val (.ref b1), .val (.ref b5), .val (.ref b8), .val (.ref b12), .val (.ref b17), .val (.int (1 : Int32))] [(.long z84), (.int (x1 >>> ((2 : Int32) &&& 31))), (.ref b1), (.ref b17)])
    refine own_by (fun t_ k_ => XS.iload X84.here hx rfl (hb hby at_225) rfl k_) ?_
    show own_Go p e below _ T84 (mkF m 227 #[.val (.int x1), .val (.long y1), .second, .val (.long y2), .second, .val (.long y3), .second, .val (.int x2), .val (.int x3), .val (.int (3 : Int32)), .val (.long ((y1 &&& (7 : Int64)) - (4 : Int64))), .second, .val (.long (((y1 &&& (7 : Int64)) - (4 : Int64)) + ((y1 >>> ((3 : Int32).toInt64 &&& 63)) &&& (3 : Int64)))), .second, .val (.long ((((y1 &&& (7 : Int64)) - (4 : Int64)) + ((y1 >>> ((3 : Int32).toInt64 &&& 63)) &&& (3 : Int64))) + ((y1 >>> ((5 : Int32).toInt64 &&& 63)) &&& (3 : Int64)))), .second, .val (.int (x2 + (x3 &&& (1 : Int32)))), .val (.int (x2 + ((x3 >>> ((1 : Int32) &&& 31)) &&& (1 : Int32)))), .val (.int (x2 + ((x3 >>> ((2 : Int32) &&& 31)) &&& (1 : Int32)))), .val (.ref b1), .val (.ref b5), .val (.ref b8), .val (.ref b12), .val (.ref b17), .val (.int (1 : Int32))] [(.int x2), (.long z84), (.int (x1 >>> ((2 : Int32) &&& 31))), (.ref b1), (.ref b17)])
    refine own_by (fun t_ k_ => XS.iload X84.here hx rfl (hb hby at_227) rfl k_) ?_
    show own_Go p e below _ T84 (mkF m 229 #[.val (.int x1), .val (.long y1), .second, .val (.long y2), .second, .val (.long y3), .second, .val (.int x2), .val (.int x3), .val (.int (3 : Int32)), .val (.long ((y1 &&& (7 : Int64)) - (4 : Int64))), .second, .val (.long (((y1 &&& (7 : Int64)) - (4 : Int64)) + ((y1 >>> ((3 : Int32).toInt64 &&& 63)) &&& (3 : Int64)))), .second, .val (.long ((((y1 &&& (7 : Int64)) - (4 : Int64)) + ((y1 >>> ((3 : Int32).toInt64 &&& 63)) &&& (3 : Int64))) + ((y1 >>> ((5 : Int32).toInt64 &&& 63)) &&& (3 : Int64)))), .second, .val (.int (x2 + (x3 &&& (1 : Int32)))), .val (.int (x2 + ((x3 >>> ((1 : Int32) &&& 31)) &&& (1 : Int32)))), .val (.int (x2 + ((x3 >>> ((2 : Int32) &&& 31)) &&& (1 : Int32)))), .val (.ref b1), .val (.ref b5), .val (.ref b8), .val (.ref b12), .val (.ref b17), .val (.int (1 : Int32))] [(.int x3), (.int x2), (.long z84), (.int (x1 >>> ((2 : Int32) &&& 31))), (.ref b1), (.ref b17)])
    refine own_by (fun t_ k_ => XS.iconst X84.here hx rfl (hb hby at_229) k_) ?_
    show own_Go p e below _ T84 (mkF m 230 #[.val (.int x1), .val (.long y1), .second, .val (.long y2), .second, .val (.long y3), .second, .val (.int x2), .val (.int x3), .val (.int (3 : Int32)), .val (.long ((y1 &&& (7 : Int64)) - (4 : Int64))), .second, .val (.long (((y1 &&& (7 : Int64)) - (4 : Int64)) + ((y1 >>> ((3 : Int32).toInt64 &&& 63)) &&& (3 : Int64)))), .second, .val (.long ((((y1 &&& (7 : Int64)) - (4 : Int64)) + ((y1 >>> ((3 : Int32).toInt64 &&& 63)) &&& (3 : Int64))) + ((y1 >>> ((5 : Int32).toInt64 &&& 63)) &&& (3 : Int64)))), .second, .val (.int (x2 + (x3 &&& (1 : Int32)))), .val (.int (x2 + ((x3 >>> ((1 : Int32) &&& 31)) &&& (1 : Int32)))), .val (.int (x2 + ((x3 >>> ((2 : Int32) &&& 31)) &&& (1 : Int32)))), .val (.ref b1), .val (.ref b5), .val (.ref b8), .val (.ref b12), .val (.ref b17), .val (.int (1 : Int32))] [(.int (4 : Int32)), (.int x3), (.int x2), (.long z84), (.int (x1 >>> ((2 : Int32) &&& 31))), (.ref b1), (.ref b17)])
    refine own_by (fun t_ k_ => XT.ishr X84.here hx rfl (hb hby at_230) rfl k_) ?_
    show own_Go p e below _ T84 (mkF m 231 #[.val (.int x1), .val (.long y1), .second, .val (.long y2), .second, .val (.long y3), .second, .val (.int x2), .val (.int x3), .val (.int (3 : Int32)), .val (.long ((y1 &&& (7 : Int64)) - (4 : Int64))), .second, .val (.long (((y1 &&& (7 : Int64)) - (4 : Int64)) + ((y1 >>> ((3 : Int32).toInt64 &&& 63)) &&& (3 : Int64)))), .second, .val (.long ((((y1 &&& (7 : Int64)) - (4 : Int64)) + ((y1 >>> ((3 : Int32).toInt64 &&& 63)) &&& (3 : Int64))) + ((y1 >>> ((5 : Int32).toInt64 &&& 63)) &&& (3 : Int64)))), .second, .val (.int (x2 + (x3 &&& (1 : Int32)))), .val (.int (x2 + ((x3 >>> ((1 : Int32) &&& 31)) &&& (1 : Int32)))), .val (.int (x2 + ((x3 >>> ((2 : Int32) &&& 31)) &&& (1 : Int32)))), .val (.ref b1), .val (.ref b5), .val (.ref b8), .val (.ref b12), .val (.ref b17), .val (.int (1 : Int32))] [(.int (x3 >>> ((4 : Int32) &&& 31))), (.int x2), (.long z84), (.int (x1 >>> ((2 : Int32) &&& 31))), (.ref b1), (.ref b17)])
    refine own_by (fun t_ k_ => XS.iconst X84.here hx rfl (hb hby at_231) k_) ?_
    show own_Go p e below _ T84 (mkF m 232 #[.val (.int x1), .val (.long y1), .second, .val (.long y2), .second, .val (.long y3), .second, .val (.int x2), .val (.int x3), .val (.int (3 : Int32)), .val (.long ((y1 &&& (7 : Int64)) - (4 : Int64))), .second, .val (.long (((y1 &&& (7 : Int64)) - (4 : Int64)) + ((y1 >>> ((3 : Int32).toInt64 &&& 63)) &&& (3 : Int64)))), .second, .val (.long ((((y1 &&& (7 : Int64)) - (4 : Int64)) + ((y1 >>> ((3 : Int32).toInt64 &&& 63)) &&& (3 : Int64))) + ((y1 >>> ((5 : Int32).toInt64 &&& 63)) &&& (3 : Int64)))), .second, .val (.int (x2 + (x3 &&& (1 : Int32)))), .val (.int (x2 + ((x3 >>> ((1 : Int32) &&& 31)) &&& (1 : Int32)))), .val (.int (x2 + ((x3 >>> ((2 : Int32) &&& 31)) &&& (1 : Int32)))), .val (.ref b1), .val (.ref b5), .val (.ref b8), .val (.ref b12), .val (.ref b17), .val (.int (1 : Int32))] [(.int (1 : Int32)), (.int (x3 >>> ((4 : Int32) &&& 31))), (.int x2), (.long z84), (.int (x1 >>> ((2 : Int32) &&& 31))), (.ref b1), (.ref b17)])
    refine own_by (fun t_ k_ => XS.iand X84.here hx rfl (hb hby at_232) rfl k_) ?_
    show own_Go p e below _ T84 (mkF m 233 #[.val (.int x1), .val (.long y1), .second, .val (.long y2), .second, .val (.long y3), .second, .val (.int x2), .val (.int x3), .val (.int (3 : Int32)), .val (.long ((y1 &&& (7 : Int64)) - (4 : Int64))), .second, .val (.long (((y1 &&& (7 : Int64)) - (4 : Int64)) + ((y1 >>> ((3 : Int32).toInt64 &&& 63)) &&& (3 : Int64)))), .second, .val (.long ((((y1 &&& (7 : Int64)) - (4 : Int64)) + ((y1 >>> ((3 : Int32).toInt64 &&& 63)) &&& (3 : Int64))) + ((y1 >>> ((5 : Int32).toInt64 &&& 63)) &&& (3 : Int64)))), .second, .val (.int (x2 + (x3 &&& (1 : Int32)))), .val (.int (x2 + ((x3 >>> ((1 : Int32) &&& 31)) &&& (1 : Int32)))), .val (.int (x2 + ((x3 >>> ((2 : Int32) &&& 31)) &&& (1 : Int32)))), .val (.ref b1), .val (.ref b5), .val (.ref b8), .val (.ref b12), .val (.ref b17), .val (.int (1 : Int32))] [(.int ((x3 >>> ((4 : Int32) &&& 31)) &&& (1 : Int32))), (.int x2), (.long z84), (.int (x1 >>> ((2 : Int32) &&& 31))), (.ref b1), (.ref b17)])
    refine own_by (fun t_ k_ => XS.iadd X84.here hx rfl (hb hby at_233) rfl k_) ?_
    show own_Go p e below _ T84 (mkF m 234 #[.val (.int x1), .val (.long y1), .second, .val (.long y2), .second, .val (.long y3), .second, .val (.int x2), .val (.int x3), .val (.int (3 : Int32)), .val (.long ((y1 &&& (7 : Int64)) - (4 : Int64))), .second, .val (.long (((y1 &&& (7 : Int64)) - (4 : Int64)) + ((y1 >>> ((3 : Int32).toInt64 &&& 63)) &&& (3 : Int64)))), .second, .val (.long ((((y1 &&& (7 : Int64)) - (4 : Int64)) + ((y1 >>> ((3 : Int32).toInt64 &&& 63)) &&& (3 : Int64))) + ((y1 >>> ((5 : Int32).toInt64 &&& 63)) &&& (3 : Int64)))), .second, .val (.int (x2 + (x3 &&& (1 : Int32)))), .val (.int (x2 + ((x3 >>> ((1 : Int32) &&& 31)) &&& (1 : Int32)))), .val (.int (x2 + ((x3 >>> ((2 : Int32) &&& 31)) &&& (1 : Int32)))), .val (.ref b1), .val (.ref b5), .val (.ref b8), .val (.ref b12), .val (.ref b17), .val (.int (1 : Int32))] [(.int (x2 + ((x3 >>> ((4 : Int32) &&& 31)) &&& (1 : Int32)))), (.long z84), (.int (x1 >>> ((2 : Int32) &&& 31))), (.ref b1), (.ref b17)])
    refine own_callS (W := 0) X84 hx hZ (y := (⟨"com/example/hedgewalk/hedgewalk/eval/GoalQueueHasOpenPinLaw", "step", "(Lcom/example/hedgewalk/hedgewalk/eval/GoalQueue;Lcom/example/hedgewalk/hedgewalk/eval/Agenda;IJI)V"⟩ : MethodName)) hown (own_w hw 81 rfl) (own_w hw 82 rfl) (own_w hw 78 rfl) (own_w hw 83 rfl) (by decide) (by rw [hml]; rfl) (argsL := [(.ref b17), (.ref b1), (.int (x1 >>> ((2 : Int32) &&& 31))), (.long z84), (.int (x2 + ((x3 >>> ((4 : Int32) &&& 31)) &&& (1 : Int32))))]) pd_4 rfl (rm11 l Z a0 hw [] b17 b1 (x1 >>> ((2 : Int32) &&& 31)) z84 (x2 + ((x3 >>> ((4 : Int32) &&& 31)) &&& (1 : Int32))) aH aF bk bh bg ([b5, b8, b12] : List Addr) ([b5, b8, b12] : List Addr) ([b5, b8, b12] : List Addr) ([] : List Addr) 3 0 T81.heap n0 sz82_ HW82_) (by decide) (by decide) (Nat.le_of_eq rfl) (by decide) (by decide) (rest := []) e84 rfl (hb hby at_234) ?_
    intro v85 T85 L85 X85 hQ85
    obtain ⟨O85, s85, f85, rfl, N85q, HX85⟩ := hQ85
    have N85 := Fr.app N84 N85q
    have HW86_ : own_W Z T85.heap n0 aH aF b17 bk bh bg b1 ([b5, b8, b12] : List Addr) O85 ([b5, b8, b12] : List Addr) ([] : List Addr) s85 f85 := HX85
    have Eq86 := HW86_.exa
    have sz86_ := HW86_.sz
    show own_Go p e below _ T85 (mkF m 237 #[.val (.int x1), .val (.long y1), .second, .val (.long y2), .second, .val (.long y3), .second, .val (.int x2), .val (.int x3), .val (.int (3 : Int32)), .val (.long ((y1 &&& (7 : Int64)) - (4 : Int64))), .second, .val (.long (((y1 &&& (7 : Int64)) - (4 : Int64)) + ((y1 >>> ((3 : Int32).toInt64 &&& 63)) &&& (3 : Int64)))), .second, .val (.long ((((y1 &&& (7 : Int64)) - (4 : Int64)) + ((y1 >>> ((3 : Int32).toInt64 &&& 63)) &&& (3 : Int64))) + ((y1 >>> ((5 : Int32).toInt64 &&& 63)) &&& (3 : Int64)))), .second, .val (.int (x2 + (x3 &&& (1 : Int32)))), .val (.int (x2 + ((x3 >>> ((1 : Int32) &&& 31)) &&& (1 : Int32)))), .val (.int (x2 + ((x3 >>> ((2 : Int32) &&& 31)) &&& (1 : Int32)))), .val (.ref b1), .val (.ref b5), .val (.ref b8), .val (.ref b12), .val (.ref b17), .val (.int (1 : Int32))] [])
    refine own_by (fun t_ k_ => XS.iload X85.here hx rfl (hb hby at_237) rfl k_) ?_
    show own_Go p e below _ T85 (mkF m 239 #[.val (.int x1), .val (.long y1), .second, .val (.long y2), .second, .val (.long y3), .second, .val (.int x2), .val (.int x3), .val (.int (3 : Int32)), .val (.long ((y1 &&& (7 : Int64)) - (4 : Int64))), .second, .val (.long (((y1 &&& (7 : Int64)) - (4 : Int64)) + ((y1 >>> ((3 : Int32).toInt64 &&& 63)) &&& (3 : Int64)))), .second, .val (.long ((((y1 &&& (7 : Int64)) - (4 : Int64)) + ((y1 >>> ((3 : Int32).toInt64 &&& 63)) &&& (3 : Int64))) + ((y1 >>> ((5 : Int32).toInt64 &&& 63)) &&& (3 : Int64)))), .second, .val (.int (x2 + (x3 &&& (1 : Int32)))), .val (.int (x2 + ((x3 >>> ((1 : Int32) &&& 31)) &&& (1 : Int32)))), .val (.int (x2 + ((x3 >>> ((2 : Int32) &&& 31)) &&& (1 : Int32)))), .val (.ref b1), .val (.ref b5), .val (.ref b8), .val (.ref b12), .val (.ref b17), .val (.int (1 : Int32))] [(.int (1 : Int32))])
    refine own_if X85 hx 265 (hb hby at_239) (by decide) (by decide) (fun hc => absurd (show ¬ (1 : Int32) = (0 : Int32) from by decide) (by first | exact hc | exact not_not_intro hc)) (fun _ => ?_)
    show own_Go p e below _ T85 (mkF m 242 #[.val (.int x1), .val (.long y1), .second, .val (.long y2), .second, .val (.long y3), .second, .val (.int x2), .val (.int x3), .val (.int (3 : Int32)), .val (.long ((y1 &&& (7 : Int64)) - (4 : Int64))), .second, .val (.long (((y1 &&& (7 : Int64)) - (4 : Int64)) + ((y1 >>> ((3 : Int32).toInt64 &&& 63)) &&& (3 : Int64)))), .second, .val (.long ((((y1 &&& (7 : Int64)) - (4 : Int64)) + ((y1 >>> ((3 : Int32).toInt64 &&& 63)) &&& (3 : Int64))) + ((y1 >>> ((5 : Int32).toInt64 &&& 63)) &&& (3 : Int64)))), .second, .val (.int (x2 + (x3 &&& (1 : Int32)))), .val (.int (x2 + ((x3 >>> ((1 : Int32) &&& 31)) &&& (1 : Int32)))), .val (.int (x2 + ((x3 >>> ((2 : Int32) &&& 31)) &&& (1 : Int32)))), .val (.ref b1), .val (.ref b5), .val (.ref b8), .val (.ref b12), .val (.ref b17), .val (.int (1 : Int32))] [])
    refine own_by (fun t_ k_ => XS.aload X85.here hx rfl (hb hby at_242) rfl rfl k_) ?_
    show own_Go p e below _ T85 (mkF m 244 #[.val (.int x1), .val (.long y1), .second, .val (.long y2), .second, .val (.long y3), .second, .val (.int x2), .val (.int x3), .val (.int (3 : Int32)), .val (.long ((y1 &&& (7 : Int64)) - (4 : Int64))), .second, .val (.long (((y1 &&& (7 : Int64)) - (4 : Int64)) + ((y1 >>> ((3 : Int32).toInt64 &&& 63)) &&& (3 : Int64)))), .second, .val (.long ((((y1 &&& (7 : Int64)) - (4 : Int64)) + ((y1 >>> ((3 : Int32).toInt64 &&& 63)) &&& (3 : Int64))) + ((y1 >>> ((5 : Int32).toInt64 &&& 63)) &&& (3 : Int64)))), .second, .val (.int (x2 + (x3 &&& (1 : Int32)))), .val (.int (x2 + ((x3 >>> ((1 : Int32) &&& 31)) &&& (1 : Int32)))), .val (.int (x2 + ((x3 >>> ((2 : Int32) &&& 31)) &&& (1 : Int32)))), .val (.ref b1), .val (.ref b5), .val (.ref b8), .val (.ref b12), .val (.ref b17), .val (.int (1 : Int32))] [(.ref b17)])
    refine own_callV (W := 0) X85 hx hZ (y := (⟨"com/example/hedgewalk/hedgewalk/eval/GoalQueue", "hasOpen", "()Z"⟩ : MethodName)) (z := (⟨"com/example/hedgewalk/hedgewalk/eval/GoalQueue", "hasOpen", "()Z"⟩ : MethodName)) hown (own_w hw 67 rfl) (own_w hw 68 rfl) (notFace_of_selects (args := #[]) (mvT hZ (own_w hw 70 rfl))) (own_w hw 70 rfl) (own_w hw 69 rfl) (own_w hw 52 rfl) (own_w hw 71 rfl) (by decide) (by rw [hml]; rfl) (argsL := []) pd_2 rfl (a := b17) rfl Eq86 (rm9 l Z a0 hw [] b17 aH aF bk bh bg b1 ([b5, b8, b12] : List Addr) O85 ([b5, b8, b12] : List Addr) ([] : List Addr) s85 f85 T85.heap n0 sz86_ HW86_) (by decide) (by decide) (Nat.le_of_eq rfl) (by decide) (by decide) (rest := []) rfl (hb hby at_244) ?_
    intro v87 T87 L87 X87 hQ87
    obtain ⟨rfl, N87q, e87⟩ := hQ87
    have N87 := Fr.app N85 N87q
    show own_Go p e below _ T87 (mkF m 247 #[.val (.int x1), .val (.long y1), .second, .val (.long y2), .second, .val (.long y3), .second, .val (.int x2), .val (.int x3), .val (.int (3 : Int32)), .val (.long ((y1 &&& (7 : Int64)) - (4 : Int64))), .second, .val (.long (((y1 &&& (7 : Int64)) - (4 : Int64)) + ((y1 >>> ((3 : Int32).toInt64 &&& 63)) &&& (3 : Int64)))), .second, .val (.long ((((y1 &&& (7 : Int64)) - (4 : Int64)) + ((y1 >>> ((3 : Int32).toInt64 &&& 63)) &&& (3 : Int64))) + ((y1 >>> ((5 : Int32).toInt64 &&& 63)) &&& (3 : Int64)))), .second, .val (.int (x2 + (x3 &&& (1 : Int32)))), .val (.int (x2 + ((x3 >>> ((1 : Int32) &&& 31)) &&& (1 : Int32)))), .val (.int (x2 + ((x3 >>> ((2 : Int32) &&& 31)) &&& (1 : Int32)))), .val (.ref b1), .val (.ref b5), .val (.ref b8), .val (.ref b12), .val (.ref b17), .val (.int (1 : Int32))] [(.int (own_h O85))])
    refine own_by (fun t_ k_ => XS.iload X87.here hx rfl (hb hby at_247) rfl k_) ?_
    show own_Go p e below _ T87 (mkF m 249 #[.val (.int x1), .val (.long y1), .second, .val (.long y2), .second, .val (.long y3), .second, .val (.int x2), .val (.int x3), .val (.int (3 : Int32)), .val (.long ((y1 &&& (7 : Int64)) - (4 : Int64))), .second, .val (.long (((y1 &&& (7 : Int64)) - (4 : Int64)) + ((y1 >>> ((3 : Int32).toInt64 &&& 63)) &&& (3 : Int64)))), .second, .val (.long ((((y1 &&& (7 : Int64)) - (4 : Int64)) + ((y1 >>> ((3 : Int32).toInt64 &&& 63)) &&& (3 : Int64))) + ((y1 >>> ((5 : Int32).toInt64 &&& 63)) &&& (3 : Int64)))), .second, .val (.int (x2 + (x3 &&& (1 : Int32)))), .val (.int (x2 + ((x3 >>> ((1 : Int32) &&& 31)) &&& (1 : Int32)))), .val (.int (x2 + ((x3 >>> ((2 : Int32) &&& 31)) &&& (1 : Int32)))), .val (.ref b1), .val (.ref b5), .val (.ref b8), .val (.ref b12), .val (.ref b17), .val (.int (1 : Int32))] [(.int (3 : Int32)), (.int (own_h O85))])
    refine own_by (fun t_ k_ => XS.aload X87.here hx rfl (hb hby at_249) rfl rfl k_) ?_
    show own_Go p e below _ T87 (mkF m 251 #[.val (.int x1), .val (.long y1), .second, .val (.long y2), .second, .val (.long y3), .second, .val (.int x2), .val (.int x3), .val (.int (3 : Int32)), .val (.long ((y1 &&& (7 : Int64)) - (4 : Int64))), .second, .val (.long (((y1 &&& (7 : Int64)) - (4 : Int64)) + ((y1 >>> ((3 : Int32).toInt64 &&& 63)) &&& (3 : Int64)))), .second, .val (.long ((((y1 &&& (7 : Int64)) - (4 : Int64)) + ((y1 >>> ((3 : Int32).toInt64 &&& 63)) &&& (3 : Int64))) + ((y1 >>> ((5 : Int32).toInt64 &&& 63)) &&& (3 : Int64)))), .second, .val (.int (x2 + (x3 &&& (1 : Int32)))), .val (.int (x2 + ((x3 >>> ((1 : Int32) &&& 31)) &&& (1 : Int32)))), .val (.int (x2 + ((x3 >>> ((2 : Int32) &&& 31)) &&& (1 : Int32)))), .val (.ref b1), .val (.ref b5), .val (.ref b8), .val (.ref b12), .val (.ref b17), .val (.int (1 : Int32))] [(.ref b5), (.int (3 : Int32)), (.int (own_h O85))])
    refine own_by (fun t_ k_ => XS.aload X87.here hx rfl (hb hby at_251) rfl rfl k_) ?_
    show own_Go p e below _ T87 (mkF m 253 #[.val (.int x1), .val (.long y1), .second, .val (.long y2), .second, .val (.long y3), .second, .val (.int x2), .val (.int x3), .val (.int (3 : Int32)), .val (.long ((y1 &&& (7 : Int64)) - (4 : Int64))), .second, .val (.long (((y1 &&& (7 : Int64)) - (4 : Int64)) + ((y1 >>> ((3 : Int32).toInt64 &&& 63)) &&& (3 : Int64)))), .second, .val (.long ((((y1 &&& (7 : Int64)) - (4 : Int64)) + ((y1 >>> ((3 : Int32).toInt64 &&& 63)) &&& (3 : Int64))) + ((y1 >>> ((5 : Int32).toInt64 &&& 63)) &&& (3 : Int64)))), .second, .val (.int (x2 + (x3 &&& (1 : Int32)))), .val (.int (x2 + ((x3 >>> ((1 : Int32) &&& 31)) &&& (1 : Int32)))), .val (.int (x2 + ((x3 >>> ((2 : Int32) &&& 31)) &&& (1 : Int32)))), .val (.ref b1), .val (.ref b5), .val (.ref b8), .val (.ref b12), .val (.ref b17), .val (.int (1 : Int32))] [(.ref b8), (.ref b5), (.int (3 : Int32)), (.int (own_h O85))])
    refine own_by (fun t_ k_ => XS.aload X87.here hx rfl (hb hby at_253) rfl rfl k_) ?_
    show own_Go p e below _ T87 (mkF m 255 #[.val (.int x1), .val (.long y1), .second, .val (.long y2), .second, .val (.long y3), .second, .val (.int x2), .val (.int x3), .val (.int (3 : Int32)), .val (.long ((y1 &&& (7 : Int64)) - (4 : Int64))), .second, .val (.long (((y1 &&& (7 : Int64)) - (4 : Int64)) + ((y1 >>> ((3 : Int32).toInt64 &&& 63)) &&& (3 : Int64)))), .second, .val (.long ((((y1 &&& (7 : Int64)) - (4 : Int64)) + ((y1 >>> ((3 : Int32).toInt64 &&& 63)) &&& (3 : Int64))) + ((y1 >>> ((5 : Int32).toInt64 &&& 63)) &&& (3 : Int64)))), .second, .val (.int (x2 + (x3 &&& (1 : Int32)))), .val (.int (x2 + ((x3 >>> ((1 : Int32) &&& 31)) &&& (1 : Int32)))), .val (.int (x2 + ((x3 >>> ((2 : Int32) &&& 31)) &&& (1 : Int32)))), .val (.ref b1), .val (.ref b5), .val (.ref b8), .val (.ref b12), .val (.ref b17), .val (.int (1 : Int32))] [(.ref b12), (.ref b8), (.ref b5), (.int (3 : Int32)), (.int (own_h O85))])
    refine own_callS (W := 1) X87 hx hZ (y := (⟨"com/example/hedgewalk/hedgewalk/eval/GoalQueueHasOpenPinLaw", "anyOpen", "(ILcom/example/hedgewalk/hedgewalk/eval/Verdict$Told;Lcom/example/hedgewalk/hedgewalk/eval/Verdict$Told;Lcom/example/hedgewalk/hedgewalk/eval/Verdict$Told;)Z"⟩ : MethodName)) hown (own_w hw 89 rfl) (own_w hw 90 rfl) (own_w hw 78 rfl) (own_w hw 91 rfl) (by decide) (by rw [hml]; rfl) (argsL := [(.int (3 : Int32)), (.ref b5), (.ref b8), (.ref b12)]) pd_6 rfl (rm13 l Z a0 hw [] (3 : Int32) b5 b8 b12 b17 aH aF bk bh bg b1 ([b5, b8, b12] : List Addr) O85 ([b5, b8, b12] : List Addr) ([] : List Addr) s85 f85 T85.heap n0 sz86_ HW86_ (Or.inr (Or.inr (Or.inr ⟨rfl, rfl⟩)))) (by decide) (by decide) (Nat.le_of_eq rfl) (by decide) (by decide) (rest := [(.int (own_h O85))]) e87 rfl (hb hby at_255) ?_
    intro v88 T88 L88 X88 hQ88
    obtain ⟨rfl, N88q, e88⟩ := hQ88
    have N88 := Fr.app N87 N88q
    show own_Go p e below _ T88 (mkF m 258 #[.val (.int x1), .val (.long y1), .second, .val (.long y2), .second, .val (.long y3), .second, .val (.int x2), .val (.int x3), .val (.int (3 : Int32)), .val (.long ((y1 &&& (7 : Int64)) - (4 : Int64))), .second, .val (.long (((y1 &&& (7 : Int64)) - (4 : Int64)) + ((y1 >>> ((3 : Int32).toInt64 &&& 63)) &&& (3 : Int64)))), .second, .val (.long ((((y1 &&& (7 : Int64)) - (4 : Int64)) + ((y1 >>> ((3 : Int32).toInt64 &&& 63)) &&& (3 : Int64))) + ((y1 >>> ((5 : Int32).toInt64 &&& 63)) &&& (3 : Int64)))), .second, .val (.int (x2 + (x3 &&& (1 : Int32)))), .val (.int (x2 + ((x3 >>> ((1 : Int32) &&& 31)) &&& (1 : Int32)))), .val (.int (x2 + ((x3 >>> ((2 : Int32) &&& 31)) &&& (1 : Int32)))), .val (.ref b1), .val (.ref b5), .val (.ref b8), .val (.ref b12), .val (.ref b17), .val (.int (1 : Int32))] [(.int (own_h O85)), (.int (own_h O85))])
    refine own_icmp X88 hx 265 (hb hby at_258) (by decide) (by decide) (fun hc => absurd (show (own_h O85) = (own_h O85) from rfl) (by first | exact hc | exact not_not_intro hc)) (fun _ => ?_)
    show own_Go p e below _ T88 (mkF m 261 #[.val (.int x1), .val (.long y1), .second, .val (.long y2), .second, .val (.long y3), .second, .val (.int x2), .val (.int x3), .val (.int (3 : Int32)), .val (.long ((y1 &&& (7 : Int64)) - (4 : Int64))), .second, .val (.long (((y1 &&& (7 : Int64)) - (4 : Int64)) + ((y1 >>> ((3 : Int32).toInt64 &&& 63)) &&& (3 : Int64)))), .second, .val (.long ((((y1 &&& (7 : Int64)) - (4 : Int64)) + ((y1 >>> ((3 : Int32).toInt64 &&& 63)) &&& (3 : Int64))) + ((y1 >>> ((5 : Int32).toInt64 &&& 63)) &&& (3 : Int64)))), .second, .val (.int (x2 + (x3 &&& (1 : Int32)))), .val (.int (x2 + ((x3 >>> ((1 : Int32) &&& 31)) &&& (1 : Int32)))), .val (.int (x2 + ((x3 >>> ((2 : Int32) &&& 31)) &&& (1 : Int32)))), .val (.ref b1), .val (.ref b5), .val (.ref b8), .val (.ref b12), .val (.ref b17), .val (.int (1 : Int32))] [])
    refine own_by (fun t_ k_ => XS.iconst X88.here hx rfl (hb hby at_261) k_) ?_
    show own_Go p e below _ T88 (mkF m 262 #[.val (.int x1), .val (.long y1), .second, .val (.long y2), .second, .val (.long y3), .second, .val (.int x2), .val (.int x3), .val (.int (3 : Int32)), .val (.long ((y1 &&& (7 : Int64)) - (4 : Int64))), .second, .val (.long (((y1 &&& (7 : Int64)) - (4 : Int64)) + ((y1 >>> ((3 : Int32).toInt64 &&& 63)) &&& (3 : Int64)))), .second, .val (.long ((((y1 &&& (7 : Int64)) - (4 : Int64)) + ((y1 >>> ((3 : Int32).toInt64 &&& 63)) &&& (3 : Int64))) + ((y1 >>> ((5 : Int32).toInt64 &&& 63)) &&& (3 : Int64)))), .second, .val (.int (x2 + (x3 &&& (1 : Int32)))), .val (.int (x2 + ((x3 >>> ((1 : Int32) &&& 31)) &&& (1 : Int32)))), .val (.int (x2 + ((x3 >>> ((2 : Int32) &&& 31)) &&& (1 : Int32)))), .val (.ref b1), .val (.ref b5), .val (.ref b8), .val (.ref b12), .val (.ref b17), .val (.int (1 : Int32))] [(.int (1 : Int32))])
    refine own_by (fun t_ k_ => XS.goto X88.here hx rfl (pc0 := 262) (pc' := 266) rfl (hb hby at_262) (by decide) (by decide) k_) ?_
    show own_Go p e below _ T88 (mkF m 266 #[.val (.int x1), .val (.long y1), .second, .val (.long y2), .second, .val (.long y3), .second, .val (.int x2), .val (.int x3), .val (.int (3 : Int32)), .val (.long ((y1 &&& (7 : Int64)) - (4 : Int64))), .second, .val (.long (((y1 &&& (7 : Int64)) - (4 : Int64)) + ((y1 >>> ((3 : Int32).toInt64 &&& 63)) &&& (3 : Int64)))), .second, .val (.long ((((y1 &&& (7 : Int64)) - (4 : Int64)) + ((y1 >>> ((3 : Int32).toInt64 &&& 63)) &&& (3 : Int64))) + ((y1 >>> ((5 : Int32).toInt64 &&& 63)) &&& (3 : Int64)))), .second, .val (.int (x2 + (x3 &&& (1 : Int32)))), .val (.int (x2 + ((x3 >>> ((1 : Int32) &&& 31)) &&& (1 : Int32)))), .val (.int (x2 + ((x3 >>> ((2 : Int32) &&& 31)) &&& (1 : Int32)))), .val (.ref b1), .val (.ref b5), .val (.ref b8), .val (.ref b12), .val (.ref b17), .val (.int (1 : Int32))] [(.int (1 : Int32))])
    refine own_by (fun t_ k_ => XS.istore X88.here hx rfl (hb hby at_266) rfl (l' := #[.val (.int x1), .val (.long y1), .second, .val (.long y2), .second, .val (.long y3), .second, .val (.int x2), .val (.int x3), .val (.int (3 : Int32)), .val (.long ((y1 &&& (7 : Int64)) - (4 : Int64))), .second, .val (.long (((y1 &&& (7 : Int64)) - (4 : Int64)) + ((y1 >>> ((3 : Int32).toInt64 &&& 63)) &&& (3 : Int64)))), .second, .val (.long ((((y1 &&& (7 : Int64)) - (4 : Int64)) + ((y1 >>> ((3 : Int32).toInt64 &&& 63)) &&& (3 : Int64))) + ((y1 >>> ((5 : Int32).toInt64 &&& 63)) &&& (3 : Int64)))), .second, .val (.int (x2 + (x3 &&& (1 : Int32)))), .val (.int (x2 + ((x3 >>> ((1 : Int32) &&& 31)) &&& (1 : Int32)))), .val (.int (x2 + ((x3 >>> ((2 : Int32) &&& 31)) &&& (1 : Int32)))), .val (.ref b1), .val (.ref b5), .val (.ref b8), .val (.ref b12), .val (.ref b17), .val (.int (1 : Int32))]) rfl k_) ?_
    show own_Go p e below _ T88 (mkF m 268 #[.val (.int x1), .val (.long y1), .second, .val (.long y2), .second, .val (.long y3), .second, .val (.int x2), .val (.int x3), .val (.int (3 : Int32)), .val (.long ((y1 &&& (7 : Int64)) - (4 : Int64))), .second, .val (.long (((y1 &&& (7 : Int64)) - (4 : Int64)) + ((y1 >>> ((3 : Int32).toInt64 &&& 63)) &&& (3 : Int64)))), .second, .val (.long ((((y1 &&& (7 : Int64)) - (4 : Int64)) + ((y1 >>> ((3 : Int32).toInt64 &&& 63)) &&& (3 : Int64))) + ((y1 >>> ((5 : Int32).toInt64 &&& 63)) &&& (3 : Int64)))), .second, .val (.int (x2 + (x3 &&& (1 : Int32)))), .val (.int (x2 + ((x3 >>> ((1 : Int32) &&& 31)) &&& (1 : Int32)))), .val (.int (x2 + ((x3 >>> ((2 : Int32) &&& 31)) &&& (1 : Int32)))), .val (.ref b1), .val (.ref b5), .val (.ref b8), .val (.ref b12), .val (.ref b17), .val (.int (1 : Int32))] [])
    refine own_by (fun t_ k_ => XS.aload X88.here hx rfl (hb hby at_268) rfl rfl k_) ?_
    show own_Go p e below _ T88 (mkF m 270 #[.val (.int x1), .val (.long y1), .second, .val (.long y2), .second, .val (.long y3), .second, .val (.int x2), .val (.int x3), .val (.int (3 : Int32)), .val (.long ((y1 &&& (7 : Int64)) - (4 : Int64))), .second, .val (.long (((y1 &&& (7 : Int64)) - (4 : Int64)) + ((y1 >>> ((3 : Int32).toInt64 &&& 63)) &&& (3 : Int64)))), .second, .val (.long ((((y1 &&& (7 : Int64)) - (4 : Int64)) + ((y1 >>> ((3 : Int32).toInt64 &&& 63)) &&& (3 : Int64))) + ((y1 >>> ((5 : Int32).toInt64 &&& 63)) &&& (3 : Int64)))), .second, .val (.int (x2 + (x3 &&& (1 : Int32)))), .val (.int (x2 + ((x3 >>> ((1 : Int32) &&& 31)) &&& (1 : Int32)))), .val (.int (x2 + ((x3 >>> ((2 : Int32) &&& 31)) &&& (1 : Int32)))), .val (.ref b1), .val (.ref b5), .val (.ref b8), .val (.ref b12), .val (.ref b17), .val (.int (1 : Int32))] [(.ref b17)])
    refine own_by (fun t_ k_ => XS.aload X88.here hx rfl (hb hby at_270) rfl rfl k_) ?_
    show own_Go p e below _ T88 (mkF m 272 #[.val (.int x1), .val (.long y1), .second, .val (.long y2), .second, .val (.long y3), .second, .val (.int x2), .val (.int x3), .val (.int (3 : Int32)), .val (.long ((y1 &&& (7 : Int64)) - (4 : Int64))), .second, .val (.long (((y1 &&& (7 : Int64)) - (4 : Int64)) + ((y1 >>> ((3 : Int32).toInt64 &&& 63)) &&& (3 : Int64)))), .second, .val (.long ((((y1 &&& (7 : Int64)) - (4 : Int64)) + ((y1 >>> ((3 : Int32).toInt64 &&& 63)) &&& (3 : Int64))) + ((y1 >>> ((5 : Int32).toInt64 &&& 63)) &&& (3 : Int64)))), .second, .val (.int (x2 + (x3 &&& (1 : Int32)))), .val (.int (x2 + ((x3 >>> ((1 : Int32) &&& 31)) &&& (1 : Int32)))), .val (.int (x2 + ((x3 >>> ((2 : Int32) &&& 31)) &&& (1 : Int32)))), .val (.ref b1), .val (.ref b5), .val (.ref b8), .val (.ref b12), .val (.ref b17), .val (.int (1 : Int32))] [(.ref b1), (.ref b17)])
    refine own_by (fun t_ k_ => XS.iloadN X88.here hx rfl (hb hby at_272) rfl k_) ?_
    show own_Go p e below _ T88 (mkF m 273 #[.val (.int x1), .val (.long y1), .second, .val (.long y2), .second, .val (.long y3), .second, .val (.int x2), .val (.int x3), .val (.int (3 : Int32)), .val (.long ((y1 &&& (7 : Int64)) - (4 : Int64))), .second, .val (.long (((y1 &&& (7 : Int64)) - (4 : Int64)) + ((y1 >>> ((3 : Int32).toInt64 &&& 63)) &&& (3 : Int64)))), .second, .val (.long ((((y1 &&& (7 : Int64)) - (4 : Int64)) + ((y1 >>> ((3 : Int32).toInt64 &&& 63)) &&& (3 : Int64))) + ((y1 >>> ((5 : Int32).toInt64 &&& 63)) &&& (3 : Int64)))), .second, .val (.int (x2 + (x3 &&& (1 : Int32)))), .val (.int (x2 + ((x3 >>> ((1 : Int32) &&& 31)) &&& (1 : Int32)))), .val (.int (x2 + ((x3 >>> ((2 : Int32) &&& 31)) &&& (1 : Int32)))), .val (.ref b1), .val (.ref b5), .val (.ref b8), .val (.ref b12), .val (.ref b17), .val (.int (1 : Int32))] [(.int x1), (.ref b1), (.ref b17)])
    refine own_by (fun t_ k_ => XS.iconst X88.here hx rfl (hb hby at_273) k_) ?_
    show own_Go p e below _ T88 (mkF m 274 #[.val (.int x1), .val (.long y1), .second, .val (.long y2), .second, .val (.long y3), .second, .val (.int x2), .val (.int x3), .val (.int (3 : Int32)), .val (.long ((y1 &&& (7 : Int64)) - (4 : Int64))), .second, .val (.long (((y1 &&& (7 : Int64)) - (4 : Int64)) + ((y1 >>> ((3 : Int32).toInt64 &&& 63)) &&& (3 : Int64)))), .second, .val (.long ((((y1 &&& (7 : Int64)) - (4 : Int64)) + ((y1 >>> ((3 : Int32).toInt64 &&& 63)) &&& (3 : Int64))) + ((y1 >>> ((5 : Int32).toInt64 &&& 63)) &&& (3 : Int64)))), .second, .val (.int (x2 + (x3 &&& (1 : Int32)))), .val (.int (x2 + ((x3 >>> ((1 : Int32) &&& 31)) &&& (1 : Int32)))), .val (.int (x2 + ((x3 >>> ((2 : Int32) &&& 31)) &&& (1 : Int32)))), .val (.ref b1), .val (.ref b5), .val (.ref b8), .val (.ref b12), .val (.ref b17), .val (.int (1 : Int32))] [(.int (3 : Int32)), (.int x1), (.ref b1), (.ref b17)])
    refine own_by (fun t_ k_ => XT.ishr X88.here hx rfl (hb hby at_274) rfl k_) ?_
    show own_Go p e below _ T88 (mkF m 275 #[.val (.int x1), .val (.long y1), .second, .val (.long y2), .second, .val (.long y3), .second, .val (.int x2), .val (.int x3), .val (.int (3 : Int32)), .val (.long ((y1 &&& (7 : Int64)) - (4 : Int64))), .second, .val (.long (((y1 &&& (7 : Int64)) - (4 : Int64)) + ((y1 >>> ((3 : Int32).toInt64 &&& 63)) &&& (3 : Int64)))), .second, .val (.long ((((y1 &&& (7 : Int64)) - (4 : Int64)) + ((y1 >>> ((3 : Int32).toInt64 &&& 63)) &&& (3 : Int64))) + ((y1 >>> ((5 : Int32).toInt64 &&& 63)) &&& (3 : Int64)))), .second, .val (.int (x2 + (x3 &&& (1 : Int32)))), .val (.int (x2 + ((x3 >>> ((1 : Int32) &&& 31)) &&& (1 : Int32)))), .val (.int (x2 + ((x3 >>> ((2 : Int32) &&& 31)) &&& (1 : Int32)))), .val (.ref b1), .val (.ref b5), .val (.ref b8), .val (.ref b12), .val (.ref b17), .val (.int (1 : Int32))] [(.int (x1 >>> ((3 : Int32) &&& 31))), (.ref b1), (.ref b17)])
    refine own_by (fun t_ k_ => XS.iloadN X88.here hx rfl (hb hby at_275) rfl k_) ?_
    show own_Go p e below _ T88 (mkF m 276 #[.val (.int x1), .val (.long y1), .second, .val (.long y2), .second, .val (.long y3), .second, .val (.int x2), .val (.int x3), .val (.int (3 : Int32)), .val (.long ((y1 &&& (7 : Int64)) - (4 : Int64))), .second, .val (.long (((y1 &&& (7 : Int64)) - (4 : Int64)) + ((y1 >>> ((3 : Int32).toInt64 &&& 63)) &&& (3 : Int64)))), .second, .val (.long ((((y1 &&& (7 : Int64)) - (4 : Int64)) + ((y1 >>> ((3 : Int32).toInt64 &&& 63)) &&& (3 : Int64))) + ((y1 >>> ((5 : Int32).toInt64 &&& 63)) &&& (3 : Int64)))), .second, .val (.int (x2 + (x3 &&& (1 : Int32)))), .val (.int (x2 + ((x3 >>> ((1 : Int32) &&& 31)) &&& (1 : Int32)))), .val (.int (x2 + ((x3 >>> ((2 : Int32) &&& 31)) &&& (1 : Int32)))), .val (.ref b1), .val (.ref b5), .val (.ref b8), .val (.ref b12), .val (.ref b17), .val (.int (1 : Int32))] [(.int x1), (.int (x1 >>> ((3 : Int32) &&& 31))), (.ref b1), (.ref b17)])
    refine own_by (fun t_ k_ => XS.iconst X88.here hx rfl (hb hby at_276) k_) ?_
    show own_Go p e below _ T88 (mkF m 277 #[.val (.int x1), .val (.long y1), .second, .val (.long y2), .second, .val (.long y3), .second, .val (.int x2), .val (.int x3), .val (.int (3 : Int32)), .val (.long ((y1 &&& (7 : Int64)) - (4 : Int64))), .second, .val (.long (((y1 &&& (7 : Int64)) - (4 : Int64)) + ((y1 >>> ((3 : Int32).toInt64 &&& 63)) &&& (3 : Int64)))), .second, .val (.long ((((y1 &&& (7 : Int64)) - (4 : Int64)) + ((y1 >>> ((3 : Int32).toInt64 &&& 63)) &&& (3 : Int64))) + ((y1 >>> ((5 : Int32).toInt64 &&& 63)) &&& (3 : Int64)))), .second, .val (.int (x2 + (x3 &&& (1 : Int32)))), .val (.int (x2 + ((x3 >>> ((1 : Int32) &&& 31)) &&& (1 : Int32)))), .val (.int (x2 + ((x3 >>> ((2 : Int32) &&& 31)) &&& (1 : Int32)))), .val (.ref b1), .val (.ref b5), .val (.ref b8), .val (.ref b12), .val (.ref b17), .val (.int (1 : Int32))] [(.int (5 : Int32)), (.int x1), (.int (x1 >>> ((3 : Int32) &&& 31))), (.ref b1), (.ref b17)])
    refine own_by (fun t_ k_ => XT.ishr X88.here hx rfl (hb hby at_277) rfl k_) ?_
    show own_Go p e below _ T88 (mkF m 278 #[.val (.int x1), .val (.long y1), .second, .val (.long y2), .second, .val (.long y3), .second, .val (.int x2), .val (.int x3), .val (.int (3 : Int32)), .val (.long ((y1 &&& (7 : Int64)) - (4 : Int64))), .second, .val (.long (((y1 &&& (7 : Int64)) - (4 : Int64)) + ((y1 >>> ((3 : Int32).toInt64 &&& 63)) &&& (3 : Int64)))), .second, .val (.long ((((y1 &&& (7 : Int64)) - (4 : Int64)) + ((y1 >>> ((3 : Int32).toInt64 &&& 63)) &&& (3 : Int64))) + ((y1 >>> ((5 : Int32).toInt64 &&& 63)) &&& (3 : Int64)))), .second, .val (.int (x2 + (x3 &&& (1 : Int32)))), .val (.int (x2 + ((x3 >>> ((1 : Int32) &&& 31)) &&& (1 : Int32)))), .val (.int (x2 + ((x3 >>> ((2 : Int32) &&& 31)) &&& (1 : Int32)))), .val (.ref b1), .val (.ref b5), .val (.ref b8), .val (.ref b12), .val (.ref b17), .val (.int (1 : Int32))] [(.int (x1 >>> ((5 : Int32) &&& 31))), (.int (x1 >>> ((3 : Int32) &&& 31))), (.ref b1), (.ref b17)])
    refine own_by (fun t_ k_ => XT.lload X88.here hx rfl (hb hby at_278) rfl k_) ?_
    show own_Go p e below _ T88 (mkF m 280 #[.val (.int x1), .val (.long y1), .second, .val (.long y2), .second, .val (.long y3), .second, .val (.int x2), .val (.int x3), .val (.int (3 : Int32)), .val (.long ((y1 &&& (7 : Int64)) - (4 : Int64))), .second, .val (.long (((y1 &&& (7 : Int64)) - (4 : Int64)) + ((y1 >>> ((3 : Int32).toInt64 &&& 63)) &&& (3 : Int64)))), .second, .val (.long ((((y1 &&& (7 : Int64)) - (4 : Int64)) + ((y1 >>> ((3 : Int32).toInt64 &&& 63)) &&& (3 : Int64))) + ((y1 >>> ((5 : Int32).toInt64 &&& 63)) &&& (3 : Int64)))), .second, .val (.int (x2 + (x3 &&& (1 : Int32)))), .val (.int (x2 + ((x3 >>> ((1 : Int32) &&& 31)) &&& (1 : Int32)))), .val (.int (x2 + ((x3 >>> ((2 : Int32) &&& 31)) &&& (1 : Int32)))), .val (.ref b1), .val (.ref b5), .val (.ref b8), .val (.ref b12), .val (.ref b17), .val (.int (1 : Int32))] [(.long y3), (.int (x1 >>> ((5 : Int32) &&& 31))), (.int (x1 >>> ((3 : Int32) &&& 31))), (.ref b1), (.ref b17)])
    refine own_callS (W := 3) X88 hx hZ (y := (⟨"com/example/hedgewalk/hedgewalk/eval/GoalQueueHasOpenPinLaw", "limit", "(IJ)J"⟩ : MethodName)) hown (own_w hw 76 rfl) (own_w hw 77 rfl) (own_w hw 78 rfl) (own_w hw 79 rfl) (by decide) (by rw [hml]; rfl) (argsL := [(.int (x1 >>> ((5 : Int32) &&& 31))), (.long y3)]) pd_3 rfl (rm10 l Z a0 hw [] (x1 >>> ((5 : Int32) &&& 31)) y3 T85.heap n0 sz86_) (by decide) (by decide) (Nat.le_of_eq rfl) (by decide) (by decide) (rest := [(.int (x1 >>> ((3 : Int32) &&& 31))), (.ref b1), (.ref b17)]) e88 rfl (hb hby at_280) ?_
    intro v89 T89 L89 X89 hQ89
    obtain ⟨z89, rfl, N89q, e89⟩ := hQ89
    have N89 := Fr.app N88 N89q
    show own_Go p e below _ T89 (mkF m 283 #[.val (.int x1), .val (.long y1), .second, .val (.long y2), .second, .val (.long y3), .second, .val (.int x2), .val (.int x3), .val (.int (3 : Int32)), .val (.long ((y1 &&& (7 : Int64)) - (4 : Int64))), .second, .val (.long (((y1 &&& (7 : Int64)) - (4 : Int64)) + ((y1 >>> ((3 : Int32).toInt64 &&& 63)) &&& (3 : Int64)))), .second, .val (.long ((((y1 &&& (7 : Int64)) - (4 : Int64)) + ((y1 >>> ((3 : Int32).toInt64 &&& 63)) &&& (3 : Int64))) + ((y1 >>> ((5 : Int32).toInt64 &&& 63)) &&& (3 : Int64)))), .second, .val (.int (x2 + (x3 &&& (1 : Int32)))), .val (.int (x2 + ((x3 >>> ((1 : Int32) &&& 31)) &&& (1 : Int32)))), .val (.int (x2 + ((x3 >>> ((2 : Int32) &&& 31)) &&& (1 : Int32)))), .val (.ref b1), .val (.ref b5), .val (.ref b8), .val (.ref b12), .val (.ref b17), .val (.int (1 : Int32))] [(.long z89), (.int (x1 >>> ((3 : Int32) &&& 31))), (.ref b1), (.ref b17)])
    refine own_by (fun t_ k_ => XS.iload X89.here hx rfl (hb hby at_283) rfl k_) ?_
    show own_Go p e below _ T89 (mkF m 285 #[.val (.int x1), .val (.long y1), .second, .val (.long y2), .second, .val (.long y3), .second, .val (.int x2), .val (.int x3), .val (.int (3 : Int32)), .val (.long ((y1 &&& (7 : Int64)) - (4 : Int64))), .second, .val (.long (((y1 &&& (7 : Int64)) - (4 : Int64)) + ((y1 >>> ((3 : Int32).toInt64 &&& 63)) &&& (3 : Int64)))), .second, .val (.long ((((y1 &&& (7 : Int64)) - (4 : Int64)) + ((y1 >>> ((3 : Int32).toInt64 &&& 63)) &&& (3 : Int64))) + ((y1 >>> ((5 : Int32).toInt64 &&& 63)) &&& (3 : Int64)))), .second, .val (.int (x2 + (x3 &&& (1 : Int32)))), .val (.int (x2 + ((x3 >>> ((1 : Int32) &&& 31)) &&& (1 : Int32)))), .val (.int (x2 + ((x3 >>> ((2 : Int32) &&& 31)) &&& (1 : Int32)))), .val (.ref b1), .val (.ref b5), .val (.ref b8), .val (.ref b12), .val (.ref b17), .val (.int (1 : Int32))] [(.int x2), (.long z89), (.int (x1 >>> ((3 : Int32) &&& 31))), (.ref b1), (.ref b17)])
    refine own_by (fun t_ k_ => XS.iload X89.here hx rfl (hb hby at_285) rfl k_) ?_
    show own_Go p e below _ T89 (mkF m 287 #[.val (.int x1), .val (.long y1), .second, .val (.long y2), .second, .val (.long y3), .second, .val (.int x2), .val (.int x3), .val (.int (3 : Int32)), .val (.long ((y1 &&& (7 : Int64)) - (4 : Int64))), .second, .val (.long (((y1 &&& (7 : Int64)) - (4 : Int64)) + ((y1 >>> ((3 : Int32).toInt64 &&& 63)) &&& (3 : Int64)))), .second, .val (.long ((((y1 &&& (7 : Int64)) - (4 : Int64)) + ((y1 >>> ((3 : Int32).toInt64 &&& 63)) &&& (3 : Int64))) + ((y1 >>> ((5 : Int32).toInt64 &&& 63)) &&& (3 : Int64)))), .second, .val (.int (x2 + (x3 &&& (1 : Int32)))), .val (.int (x2 + ((x3 >>> ((1 : Int32) &&& 31)) &&& (1 : Int32)))), .val (.int (x2 + ((x3 >>> ((2 : Int32) &&& 31)) &&& (1 : Int32)))), .val (.ref b1), .val (.ref b5), .val (.ref b8), .val (.ref b12), .val (.ref b17), .val (.int (1 : Int32))] [(.int x3), (.int x2), (.long z89), (.int (x1 >>> ((3 : Int32) &&& 31))), (.ref b1), (.ref b17)])
    refine own_by (fun t_ k_ => XS.iconst X89.here hx rfl (hb hby at_287) k_) ?_
    show own_Go p e below _ T89 (mkF m 288 #[.val (.int x1), .val (.long y1), .second, .val (.long y2), .second, .val (.long y3), .second, .val (.int x2), .val (.int x3), .val (.int (3 : Int32)), .val (.long ((y1 &&& (7 : Int64)) - (4 : Int64))), .second, .val (.long (((y1 &&& (7 : Int64)) - (4 : Int64)) + ((y1 >>> ((3 : Int32).toInt64 &&& 63)) &&& (3 : Int64)))), .second, .val (.long ((((y1 &&& (7 : Int64)) - (4 : Int64)) + ((y1 >>> ((3 : Int32).toInt64 &&& 63)) &&& (3 : Int64))) + ((y1 >>> ((5 : Int32).toInt64 &&& 63)) &&& (3 : Int64)))), .second, .val (.int (x2 + (x3 &&& (1 : Int32)))), .val (.int (x2 + ((x3 >>> ((1 : Int32) &&& 31)) &&& (1 : Int32)))), .val (.int (x2 + ((x3 >>> ((2 : Int32) &&& 31)) &&& (1 : Int32)))), .val (.ref b1), .val (.ref b5), .val (.ref b8), .val (.ref b12), .val (.ref b17), .val (.int (1 : Int32))] [(.int (5 : Int32)), (.int x3), (.int x2), (.long z89), (.int (x1 >>> ((3 : Int32) &&& 31))), (.ref b1), (.ref b17)])
    refine own_by (fun t_ k_ => XT.ishr X89.here hx rfl (hb hby at_288) rfl k_) ?_
    show own_Go p e below _ T89 (mkF m 289 #[.val (.int x1), .val (.long y1), .second, .val (.long y2), .second, .val (.long y3), .second, .val (.int x2), .val (.int x3), .val (.int (3 : Int32)), .val (.long ((y1 &&& (7 : Int64)) - (4 : Int64))), .second, .val (.long (((y1 &&& (7 : Int64)) - (4 : Int64)) + ((y1 >>> ((3 : Int32).toInt64 &&& 63)) &&& (3 : Int64)))), .second, .val (.long ((((y1 &&& (7 : Int64)) - (4 : Int64)) + ((y1 >>> ((3 : Int32).toInt64 &&& 63)) &&& (3 : Int64))) + ((y1 >>> ((5 : Int32).toInt64 &&& 63)) &&& (3 : Int64)))), .second, .val (.int (x2 + (x3 &&& (1 : Int32)))), .val (.int (x2 + ((x3 >>> ((1 : Int32) &&& 31)) &&& (1 : Int32)))), .val (.int (x2 + ((x3 >>> ((2 : Int32) &&& 31)) &&& (1 : Int32)))), .val (.ref b1), .val (.ref b5), .val (.ref b8), .val (.ref b12), .val (.ref b17), .val (.int (1 : Int32))] [(.int (x3 >>> ((5 : Int32) &&& 31))), (.int x2), (.long z89), (.int (x1 >>> ((3 : Int32) &&& 31))), (.ref b1), (.ref b17)])
    refine own_by (fun t_ k_ => XS.iconst X89.here hx rfl (hb hby at_289) k_) ?_
    show own_Go p e below _ T89 (mkF m 290 #[.val (.int x1), .val (.long y1), .second, .val (.long y2), .second, .val (.long y3), .second, .val (.int x2), .val (.int x3), .val (.int (3 : Int32)), .val (.long ((y1 &&& (7 : Int64)) - (4 : Int64))), .second, .val (.long (((y1 &&& (7 : Int64)) - (4 : Int64)) + ((y1 >>> ((3 : Int32).toInt64 &&& 63)) &&& (3 : Int64)))), .second, .val (.long ((((y1 &&& (7 : Int64)) - (4 : Int64)) + ((y1 >>> ((3 : Int32).toInt64 &&& 63)) &&& (3 : Int64))) + ((y1 >>> ((5 : Int32).toInt64 &&& 63)) &&& (3 : Int64)))), .second, .val (.int (x2 + (x3 &&& (1 : Int32)))), .val (.int (x2 + ((x3 >>> ((1 : Int32) &&& 31)) &&& (1 : Int32)))), .val (.int (x2 + ((x3 >>> ((2 : Int32) &&& 31)) &&& (1 : Int32)))), .val (.ref b1), .val (.ref b5), .val (.ref b8), .val (.ref b12), .val (.ref b17), .val (.int (1 : Int32))] [(.int (1 : Int32)), (.int (x3 >>> ((5 : Int32) &&& 31))), (.int x2), (.long z89), (.int (x1 >>> ((3 : Int32) &&& 31))), (.ref b1), (.ref b17)])
    refine own_by (fun t_ k_ => XS.iand X89.here hx rfl (hb hby at_290) rfl k_) ?_
    show own_Go p e below _ T89 (mkF m 291 #[.val (.int x1), .val (.long y1), .second, .val (.long y2), .second, .val (.long y3), .second, .val (.int x2), .val (.int x3), .val (.int (3 : Int32)), .val (.long ((y1 &&& (7 : Int64)) - (4 : Int64))), .second, .val (.long (((y1 &&& (7 : Int64)) - (4 : Int64)) + ((y1 >>> ((3 : Int32).toInt64 &&& 63)) &&& (3 : Int64)))), .second, .val (.long ((((y1 &&& (7 : Int64)) - (4 : Int64)) + ((y1 >>> ((3 : Int32).toInt64 &&& 63)) &&& (3 : Int64))) + ((y1 >>> ((5 : Int32).toInt64 &&& 63)) &&& (3 : Int64)))), .second, .val (.int (x2 + (x3 &&& (1 : Int32)))), .val (.int (x2 + ((x3 >>> ((1 : Int32) &&& 31)) &&& (1 : Int32)))), .val (.int (x2 + ((x3 >>> ((2 : Int32) &&& 31)) &&& (1 : Int32)))), .val (.ref b1), .val (.ref b5), .val (.ref b8), .val (.ref b12), .val (.ref b17), .val (.int (1 : Int32))] [(.int ((x3 >>> ((5 : Int32) &&& 31)) &&& (1 : Int32))), (.int x2), (.long z89), (.int (x1 >>> ((3 : Int32) &&& 31))), (.ref b1), (.ref b17)])
    refine own_by (fun t_ k_ => XS.iadd X89.here hx rfl (hb hby at_291) rfl k_) ?_
    show own_Go p e below _ T89 (mkF m 292 #[.val (.int x1), .val (.long y1), .second, .val (.long y2), .second, .val (.long y3), .second, .val (.int x2), .val (.int x3), .val (.int (3 : Int32)), .val (.long ((y1 &&& (7 : Int64)) - (4 : Int64))), .second, .val (.long (((y1 &&& (7 : Int64)) - (4 : Int64)) + ((y1 >>> ((3 : Int32).toInt64 &&& 63)) &&& (3 : Int64)))), .second, .val (.long ((((y1 &&& (7 : Int64)) - (4 : Int64)) + ((y1 >>> ((3 : Int32).toInt64 &&& 63)) &&& (3 : Int64))) + ((y1 >>> ((5 : Int32).toInt64 &&& 63)) &&& (3 : Int64)))), .second, .val (.int (x2 + (x3 &&& (1 : Int32)))), .val (.int (x2 + ((x3 >>> ((1 : Int32) &&& 31)) &&& (1 : Int32)))), .val (.int (x2 + ((x3 >>> ((2 : Int32) &&& 31)) &&& (1 : Int32)))), .val (.ref b1), .val (.ref b5), .val (.ref b8), .val (.ref b12), .val (.ref b17), .val (.int (1 : Int32))] [(.int (x2 + ((x3 >>> ((5 : Int32) &&& 31)) &&& (1 : Int32)))), (.long z89), (.int (x1 >>> ((3 : Int32) &&& 31))), (.ref b1), (.ref b17)])
    refine own_callS (W := 0) X89 hx hZ (y := (⟨"com/example/hedgewalk/hedgewalk/eval/GoalQueueHasOpenPinLaw", "step", "(Lcom/example/hedgewalk/hedgewalk/eval/GoalQueue;Lcom/example/hedgewalk/hedgewalk/eval/Agenda;IJI)V"⟩ : MethodName)) hown (own_w hw 81 rfl) (own_w hw 82 rfl) (own_w hw 78 rfl) (own_w hw 83 rfl) (by decide) (by rw [hml]; rfl) (argsL := [(.ref b17), (.ref b1), (.int (x1 >>> ((3 : Int32) &&& 31))), (.long z89), (.int (x2 + ((x3 >>> ((5 : Int32) &&& 31)) &&& (1 : Int32))))]) pd_4 rfl (rm11 l Z a0 hw [] b17 b1 (x1 >>> ((3 : Int32) &&& 31)) z89 (x2 + ((x3 >>> ((5 : Int32) &&& 31)) &&& (1 : Int32))) aH aF bk bh bg ([b5, b8, b12] : List Addr) O85 ([b5, b8, b12] : List Addr) ([] : List Addr) s85 f85 T85.heap n0 sz86_ HW86_) (by decide) (by decide) (Nat.le_of_eq rfl) (by decide) (by decide) (rest := []) e89 rfl (hb hby at_292) ?_
    intro v90 T90 L90 X90 hQ90
    obtain ⟨O90, s90, f90, rfl, N90q, HX90⟩ := hQ90
    have N90 := Fr.app N89 N90q
    have HW91_ : own_W Z T90.heap n0 aH aF b17 bk bh bg b1 ([b5, b8, b12] : List Addr) O90 ([b5, b8, b12] : List Addr) ([] : List Addr) s90 f90 := HX90
    have Eq91 := HW91_.exa
    have sz91_ := HW91_.sz
    show own_Go p e below _ T90 (mkF m 295 #[.val (.int x1), .val (.long y1), .second, .val (.long y2), .second, .val (.long y3), .second, .val (.int x2), .val (.int x3), .val (.int (3 : Int32)), .val (.long ((y1 &&& (7 : Int64)) - (4 : Int64))), .second, .val (.long (((y1 &&& (7 : Int64)) - (4 : Int64)) + ((y1 >>> ((3 : Int32).toInt64 &&& 63)) &&& (3 : Int64)))), .second, .val (.long ((((y1 &&& (7 : Int64)) - (4 : Int64)) + ((y1 >>> ((3 : Int32).toInt64 &&& 63)) &&& (3 : Int64))) + ((y1 >>> ((5 : Int32).toInt64 &&& 63)) &&& (3 : Int64)))), .second, .val (.int (x2 + (x3 &&& (1 : Int32)))), .val (.int (x2 + ((x3 >>> ((1 : Int32) &&& 31)) &&& (1 : Int32)))), .val (.int (x2 + ((x3 >>> ((2 : Int32) &&& 31)) &&& (1 : Int32)))), .val (.ref b1), .val (.ref b5), .val (.ref b8), .val (.ref b12), .val (.ref b17), .val (.int (1 : Int32))] [])
    refine own_by (fun t_ k_ => XS.iload X90.here hx rfl (hb hby at_295) rfl k_) ?_
    show own_Go p e below _ T90 (mkF m 297 #[.val (.int x1), .val (.long y1), .second, .val (.long y2), .second, .val (.long y3), .second, .val (.int x2), .val (.int x3), .val (.int (3 : Int32)), .val (.long ((y1 &&& (7 : Int64)) - (4 : Int64))), .second, .val (.long (((y1 &&& (7 : Int64)) - (4 : Int64)) + ((y1 >>> ((3 : Int32).toInt64 &&& 63)) &&& (3 : Int64)))), .second, .val (.long ((((y1 &&& (7 : Int64)) - (4 : Int64)) + ((y1 >>> ((3 : Int32).toInt64 &&& 63)) &&& (3 : Int64))) + ((y1 >>> ((5 : Int32).toInt64 &&& 63)) &&& (3 : Int64)))), .second, .val (.int (x2 + (x3 &&& (1 : Int32)))), .val (.int (x2 + ((x3 >>> ((1 : Int32) &&& 31)) &&& (1 : Int32)))), .val (.int (x2 + ((x3 >>> ((2 : Int32) &&& 31)) &&& (1 : Int32)))), .val (.ref b1), .val (.ref b5), .val (.ref b8), .val (.ref b12), .val (.ref b17), .val (.int (1 : Int32))] [(.int (1 : Int32))])
    refine own_if X90 hx 323 (hb hby at_297) (by decide) (by decide) (fun hc => absurd (show ¬ (1 : Int32) = (0 : Int32) from by decide) (by first | exact hc | exact not_not_intro hc)) (fun _ => ?_)
    show own_Go p e below _ T90 (mkF m 300 #[.val (.int x1), .val (.long y1), .second, .val (.long y2), .second, .val (.long y3), .second, .val (.int x2), .val (.int x3), .val (.int (3 : Int32)), .val (.long ((y1 &&& (7 : Int64)) - (4 : Int64))), .second, .val (.long (((y1 &&& (7 : Int64)) - (4 : Int64)) + ((y1 >>> ((3 : Int32).toInt64 &&& 63)) &&& (3 : Int64)))), .second, .val (.long ((((y1 &&& (7 : Int64)) - (4 : Int64)) + ((y1 >>> ((3 : Int32).toInt64 &&& 63)) &&& (3 : Int64))) + ((y1 >>> ((5 : Int32).toInt64 &&& 63)) &&& (3 : Int64)))), .second, .val (.int (x2 + (x3 &&& (1 : Int32)))), .val (.int (x2 + ((x3 >>> ((1 : Int32) &&& 31)) &&& (1 : Int32)))), .val (.int (x2 + ((x3 >>> ((2 : Int32) &&& 31)) &&& (1 : Int32)))), .val (.ref b1), .val (.ref b5), .val (.ref b8), .val (.ref b12), .val (.ref b17), .val (.int (1 : Int32))] [])
    refine own_by (fun t_ k_ => XS.aload X90.here hx rfl (hb hby at_300) rfl rfl k_) ?_
    show own_Go p e below _ T90 (mkF m 302 #[.val (.int x1), .val (.long y1), .second, .val (.long y2), .second, .val (.long y3), .second, .val (.int x2), .val (.int x3), .val (.int (3 : Int32)), .val (.long ((y1 &&& (7 : Int64)) - (4 : Int64))), .second, .val (.long (((y1 &&& (7 : Int64)) - (4 : Int64)) + ((y1 >>> ((3 : Int32).toInt64 &&& 63)) &&& (3 : Int64)))), .second, .val (.long ((((y1 &&& (7 : Int64)) - (4 : Int64)) + ((y1 >>> ((3 : Int32).toInt64 &&& 63)) &&& (3 : Int64))) + ((y1 >>> ((5 : Int32).toInt64 &&& 63)) &&& (3 : Int64)))), .second, .val (.int (x2 + (x3 &&& (1 : Int32)))), .val (.int (x2 + ((x3 >>> ((1 : Int32) &&& 31)) &&& (1 : Int32)))), .val (.int (x2 + ((x3 >>> ((2 : Int32) &&& 31)) &&& (1 : Int32)))), .val (.ref b1), .val (.ref b5), .val (.ref b8), .val (.ref b12), .val (.ref b17), .val (.int (1 : Int32))] [(.ref b17)])
    refine own_callV (W := 0) X90 hx hZ (y := (⟨"com/example/hedgewalk/hedgewalk/eval/GoalQueue", "hasOpen", "()Z"⟩ : MethodName)) (z := (⟨"com/example/hedgewalk/hedgewalk/eval/GoalQueue", "hasOpen", "()Z"⟩ : MethodName)) hown (own_w hw 67 rfl) (own_w hw 68 rfl) (notFace_of_selects (args := #[]) (mvT hZ (own_w hw 70 rfl))) (own_w hw 70 rfl) (own_w hw 69 rfl) (own_w hw 52 rfl) (own_w hw 71 rfl) (by decide) (by rw [hml]; rfl) (argsL := []) pd_2 rfl (a := b17) rfl Eq91 (rm9 l Z a0 hw [] b17 aH aF bk bh bg b1 ([b5, b8, b12] : List Addr) O90 ([b5, b8, b12] : List Addr) ([] : List Addr) s90 f90 T90.heap n0 sz91_ HW91_) (by decide) (by decide) (Nat.le_of_eq rfl) (by decide) (by decide) (rest := []) rfl (hb hby at_302) ?_
    intro v92 T92 L92 X92 hQ92
    obtain ⟨rfl, N92q, e92⟩ := hQ92
    have N92 := Fr.app N90 N92q
    show own_Go p e below _ T92 (mkF m 305 #[.val (.int x1), .val (.long y1), .second, .val (.long y2), .second, .val (.long y3), .second, .val (.int x2), .val (.int x3), .val (.int (3 : Int32)), .val (.long ((y1 &&& (7 : Int64)) - (4 : Int64))), .second, .val (.long (((y1 &&& (7 : Int64)) - (4 : Int64)) + ((y1 >>> ((3 : Int32).toInt64 &&& 63)) &&& (3 : Int64)))), .second, .val (.long ((((y1 &&& (7 : Int64)) - (4 : Int64)) + ((y1 >>> ((3 : Int32).toInt64 &&& 63)) &&& (3 : Int64))) + ((y1 >>> ((5 : Int32).toInt64 &&& 63)) &&& (3 : Int64)))), .second, .val (.int (x2 + (x3 &&& (1 : Int32)))), .val (.int (x2 + ((x3 >>> ((1 : Int32) &&& 31)) &&& (1 : Int32)))), .val (.int (x2 + ((x3 >>> ((2 : Int32) &&& 31)) &&& (1 : Int32)))), .val (.ref b1), .val (.ref b5), .val (.ref b8), .val (.ref b12), .val (.ref b17), .val (.int (1 : Int32))] [(.int (own_h O90))])
    refine own_by (fun t_ k_ => XS.iload X92.here hx rfl (hb hby at_305) rfl k_) ?_
    show own_Go p e below _ T92 (mkF m 307 #[.val (.int x1), .val (.long y1), .second, .val (.long y2), .second, .val (.long y3), .second, .val (.int x2), .val (.int x3), .val (.int (3 : Int32)), .val (.long ((y1 &&& (7 : Int64)) - (4 : Int64))), .second, .val (.long (((y1 &&& (7 : Int64)) - (4 : Int64)) + ((y1 >>> ((3 : Int32).toInt64 &&& 63)) &&& (3 : Int64)))), .second, .val (.long ((((y1 &&& (7 : Int64)) - (4 : Int64)) + ((y1 >>> ((3 : Int32).toInt64 &&& 63)) &&& (3 : Int64))) + ((y1 >>> ((5 : Int32).toInt64 &&& 63)) &&& (3 : Int64)))), .second, .val (.int (x2 + (x3 &&& (1 : Int32)))), .val (.int (x2 + ((x3 >>> ((1 : Int32) &&& 31)) &&& (1 : Int32)))), .val (.int (x2 + ((x3 >>> ((2 : Int32) &&& 31)) &&& (1 : Int32)))), .val (.ref b1), .val (.ref b5), .val (.ref b8), .val (.ref b12), .val (.ref b17), .val (.int (1 : Int32))] [(.int (3 : Int32)), (.int (own_h O90))])
    refine own_by (fun t_ k_ => XS.aload X92.here hx rfl (hb hby at_307) rfl rfl k_) ?_
    show own_Go p e below _ T92 (mkF m 309 #[.val (.int x1), .val (.long y1), .second, .val (.long y2), .second, .val (.long y3), .second, .val (.int x2), .val (.int x3), .val (.int (3 : Int32)), .val (.long ((y1 &&& (7 : Int64)) - (4 : Int64))), .second, .val (.long (((y1 &&& (7 : Int64)) - (4 : Int64)) + ((y1 >>> ((3 : Int32).toInt64 &&& 63)) &&& (3 : Int64)))), .second, .val (.long ((((y1 &&& (7 : Int64)) - (4 : Int64)) + ((y1 >>> ((3 : Int32).toInt64 &&& 63)) &&& (3 : Int64))) + ((y1 >>> ((5 : Int32).toInt64 &&& 63)) &&& (3 : Int64)))), .second, .val (.int (x2 + (x3 &&& (1 : Int32)))), .val (.int (x2 + ((x3 >>> ((1 : Int32) &&& 31)) &&& (1 : Int32)))), .val (.int (x2 + ((x3 >>> ((2 : Int32) &&& 31)) &&& (1 : Int32)))), .val (.ref b1), .val (.ref b5), .val (.ref b8), .val (.ref b12), .val (.ref b17), .val (.int (1 : Int32))] [(.ref b5), (.int (3 : Int32)), (.int (own_h O90))])
    refine own_by (fun t_ k_ => XS.aload X92.here hx rfl (hb hby at_309) rfl rfl k_) ?_
    show own_Go p e below _ T92 (mkF m 311 #[.val (.int x1), .val (.long y1), .second, .val (.long y2), .second, .val (.long y3), .second, .val (.int x2), .val (.int x3), .val (.int (3 : Int32)), .val (.long ((y1 &&& (7 : Int64)) - (4 : Int64))), .second, .val (.long (((y1 &&& (7 : Int64)) - (4 : Int64)) + ((y1 >>> ((3 : Int32).toInt64 &&& 63)) &&& (3 : Int64)))), .second, .val (.long ((((y1 &&& (7 : Int64)) - (4 : Int64)) + ((y1 >>> ((3 : Int32).toInt64 &&& 63)) &&& (3 : Int64))) + ((y1 >>> ((5 : Int32).toInt64 &&& 63)) &&& (3 : Int64)))), .second, .val (.int (x2 + (x3 &&& (1 : Int32)))), .val (.int (x2 + ((x3 >>> ((1 : Int32) &&& 31)) &&& (1 : Int32)))), .val (.int (x2 + ((x3 >>> ((2 : Int32) &&& 31)) &&& (1 : Int32)))), .val (.ref b1), .val (.ref b5), .val (.ref b8), .val (.ref b12), .val (.ref b17), .val (.int (1 : Int32))] [(.ref b8), (.ref b5), (.int (3 : Int32)), (.int (own_h O90))])
    refine own_by (fun t_ k_ => XS.aload X92.here hx rfl (hb hby at_311) rfl rfl k_) ?_
    show own_Go p e below _ T92 (mkF m 313 #[.val (.int x1), .val (.long y1), .second, .val (.long y2), .second, .val (.long y3), .second, .val (.int x2), .val (.int x3), .val (.int (3 : Int32)), .val (.long ((y1 &&& (7 : Int64)) - (4 : Int64))), .second, .val (.long (((y1 &&& (7 : Int64)) - (4 : Int64)) + ((y1 >>> ((3 : Int32).toInt64 &&& 63)) &&& (3 : Int64)))), .second, .val (.long ((((y1 &&& (7 : Int64)) - (4 : Int64)) + ((y1 >>> ((3 : Int32).toInt64 &&& 63)) &&& (3 : Int64))) + ((y1 >>> ((5 : Int32).toInt64 &&& 63)) &&& (3 : Int64)))), .second, .val (.int (x2 + (x3 &&& (1 : Int32)))), .val (.int (x2 + ((x3 >>> ((1 : Int32) &&& 31)) &&& (1 : Int32)))), .val (.int (x2 + ((x3 >>> ((2 : Int32) &&& 31)) &&& (1 : Int32)))), .val (.ref b1), .val (.ref b5), .val (.ref b8), .val (.ref b12), .val (.ref b17), .val (.int (1 : Int32))] [(.ref b12), (.ref b8), (.ref b5), (.int (3 : Int32)), (.int (own_h O90))])
    refine own_callS (W := 1) X92 hx hZ (y := (⟨"com/example/hedgewalk/hedgewalk/eval/GoalQueueHasOpenPinLaw", "anyOpen", "(ILcom/example/hedgewalk/hedgewalk/eval/Verdict$Told;Lcom/example/hedgewalk/hedgewalk/eval/Verdict$Told;Lcom/example/hedgewalk/hedgewalk/eval/Verdict$Told;)Z"⟩ : MethodName)) hown (own_w hw 89 rfl) (own_w hw 90 rfl) (own_w hw 78 rfl) (own_w hw 91 rfl) (by decide) (by rw [hml]; rfl) (argsL := [(.int (3 : Int32)), (.ref b5), (.ref b8), (.ref b12)]) pd_6 rfl (rm13 l Z a0 hw [] (3 : Int32) b5 b8 b12 b17 aH aF bk bh bg b1 ([b5, b8, b12] : List Addr) O90 ([b5, b8, b12] : List Addr) ([] : List Addr) s90 f90 T90.heap n0 sz91_ HW91_ (Or.inr (Or.inr (Or.inr ⟨rfl, rfl⟩)))) (by decide) (by decide) (Nat.le_of_eq rfl) (by decide) (by decide) (rest := [(.int (own_h O90))]) e92 rfl (hb hby at_313) ?_
    intro v93 T93 L93 X93 hQ93
    obtain ⟨rfl, N93q, e93⟩ := hQ93
    have N93 := Fr.app N92 N93q
    show own_Go p e below _ T93 (mkF m 316 #[.val (.int x1), .val (.long y1), .second, .val (.long y2), .second, .val (.long y3), .second, .val (.int x2), .val (.int x3), .val (.int (3 : Int32)), .val (.long ((y1 &&& (7 : Int64)) - (4 : Int64))), .second, .val (.long (((y1 &&& (7 : Int64)) - (4 : Int64)) + ((y1 >>> ((3 : Int32).toInt64 &&& 63)) &&& (3 : Int64)))), .second, .val (.long ((((y1 &&& (7 : Int64)) - (4 : Int64)) + ((y1 >>> ((3 : Int32).toInt64 &&& 63)) &&& (3 : Int64))) + ((y1 >>> ((5 : Int32).toInt64 &&& 63)) &&& (3 : Int64)))), .second, .val (.int (x2 + (x3 &&& (1 : Int32)))), .val (.int (x2 + ((x3 >>> ((1 : Int32) &&& 31)) &&& (1 : Int32)))), .val (.int (x2 + ((x3 >>> ((2 : Int32) &&& 31)) &&& (1 : Int32)))), .val (.ref b1), .val (.ref b5), .val (.ref b8), .val (.ref b12), .val (.ref b17), .val (.int (1 : Int32))] [(.int (own_h O90)), (.int (own_h O90))])
    refine own_icmp X93 hx 323 (hb hby at_316) (by decide) (by decide) (fun hc => absurd (show (own_h O90) = (own_h O90) from rfl) (by first | exact hc | exact not_not_intro hc)) (fun _ => ?_)
    show own_Go p e below _ T93 (mkF m 319 #[.val (.int x1), .val (.long y1), .second, .val (.long y2), .second, .val (.long y3), .second, .val (.int x2), .val (.int x3), .val (.int (3 : Int32)), .val (.long ((y1 &&& (7 : Int64)) - (4 : Int64))), .second, .val (.long (((y1 &&& (7 : Int64)) - (4 : Int64)) + ((y1 >>> ((3 : Int32).toInt64 &&& 63)) &&& (3 : Int64)))), .second, .val (.long ((((y1 &&& (7 : Int64)) - (4 : Int64)) + ((y1 >>> ((3 : Int32).toInt64 &&& 63)) &&& (3 : Int64))) + ((y1 >>> ((5 : Int32).toInt64 &&& 63)) &&& (3 : Int64)))), .second, .val (.int (x2 + (x3 &&& (1 : Int32)))), .val (.int (x2 + ((x3 >>> ((1 : Int32) &&& 31)) &&& (1 : Int32)))), .val (.int (x2 + ((x3 >>> ((2 : Int32) &&& 31)) &&& (1 : Int32)))), .val (.ref b1), .val (.ref b5), .val (.ref b8), .val (.ref b12), .val (.ref b17), .val (.int (1 : Int32))] [])
    refine own_by (fun t_ k_ => XS.iconst X93.here hx rfl (hb hby at_319) k_) ?_
    show own_Go p e below _ T93 (mkF m 320 #[.val (.int x1), .val (.long y1), .second, .val (.long y2), .second, .val (.long y3), .second, .val (.int x2), .val (.int x3), .val (.int (3 : Int32)), .val (.long ((y1 &&& (7 : Int64)) - (4 : Int64))), .second, .val (.long (((y1 &&& (7 : Int64)) - (4 : Int64)) + ((y1 >>> ((3 : Int32).toInt64 &&& 63)) &&& (3 : Int64)))), .second, .val (.long ((((y1 &&& (7 : Int64)) - (4 : Int64)) + ((y1 >>> ((3 : Int32).toInt64 &&& 63)) &&& (3 : Int64))) + ((y1 >>> ((5 : Int32).toInt64 &&& 63)) &&& (3 : Int64)))), .second, .val (.int (x2 + (x3 &&& (1 : Int32)))), .val (.int (x2 + ((x3 >>> ((1 : Int32) &&& 31)) &&& (1 : Int32)))), .val (.int (x2 + ((x3 >>> ((2 : Int32) &&& 31)) &&& (1 : Int32)))), .val (.ref b1), .val (.ref b5), .val (.ref b8), .val (.ref b12), .val (.ref b17), .val (.int (1 : Int32))] [(.int (1 : Int32))])
    refine own_by (fun t_ k_ => XS.goto X93.here hx rfl (pc0 := 320) (pc' := 324) rfl (hb hby at_320) (by decide) (by decide) k_) ?_
    show own_Go p e below _ T93 (mkF m 324 #[.val (.int x1), .val (.long y1), .second, .val (.long y2), .second, .val (.long y3), .second, .val (.int x2), .val (.int x3), .val (.int (3 : Int32)), .val (.long ((y1 &&& (7 : Int64)) - (4 : Int64))), .second, .val (.long (((y1 &&& (7 : Int64)) - (4 : Int64)) + ((y1 >>> ((3 : Int32).toInt64 &&& 63)) &&& (3 : Int64)))), .second, .val (.long ((((y1 &&& (7 : Int64)) - (4 : Int64)) + ((y1 >>> ((3 : Int32).toInt64 &&& 63)) &&& (3 : Int64))) + ((y1 >>> ((5 : Int32).toInt64 &&& 63)) &&& (3 : Int64)))), .second, .val (.int (x2 + (x3 &&& (1 : Int32)))), .val (.int (x2 + ((x3 >>> ((1 : Int32) &&& 31)) &&& (1 : Int32)))), .val (.int (x2 + ((x3 >>> ((2 : Int32) &&& 31)) &&& (1 : Int32)))), .val (.ref b1), .val (.ref b5), .val (.ref b8), .val (.ref b12), .val (.ref b17), .val (.int (1 : Int32))] [(.int (1 : Int32))])
    refine own_by (fun t_ k_ => XS.istore X93.here hx rfl (hb hby at_324) rfl (l' := #[.val (.int x1), .val (.long y1), .second, .val (.long y2), .second, .val (.long y3), .second, .val (.int x2), .val (.int x3), .val (.int (3 : Int32)), .val (.long ((y1 &&& (7 : Int64)) - (4 : Int64))), .second, .val (.long (((y1 &&& (7 : Int64)) - (4 : Int64)) + ((y1 >>> ((3 : Int32).toInt64 &&& 63)) &&& (3 : Int64)))), .second, .val (.long ((((y1 &&& (7 : Int64)) - (4 : Int64)) + ((y1 >>> ((3 : Int32).toInt64 &&& 63)) &&& (3 : Int64))) + ((y1 >>> ((5 : Int32).toInt64 &&& 63)) &&& (3 : Int64)))), .second, .val (.int (x2 + (x3 &&& (1 : Int32)))), .val (.int (x2 + ((x3 >>> ((1 : Int32) &&& 31)) &&& (1 : Int32)))), .val (.int (x2 + ((x3 >>> ((2 : Int32) &&& 31)) &&& (1 : Int32)))), .val (.ref b1), .val (.ref b5), .val (.ref b8), .val (.ref b12), .val (.ref b17), .val (.int (1 : Int32))]) rfl k_) ?_
    show own_Go p e below _ T93 (mkF m 326 #[.val (.int x1), .val (.long y1), .second, .val (.long y2), .second, .val (.long y3), .second, .val (.int x2), .val (.int x3), .val (.int (3 : Int32)), .val (.long ((y1 &&& (7 : Int64)) - (4 : Int64))), .second, .val (.long (((y1 &&& (7 : Int64)) - (4 : Int64)) + ((y1 >>> ((3 : Int32).toInt64 &&& 63)) &&& (3 : Int64)))), .second, .val (.long ((((y1 &&& (7 : Int64)) - (4 : Int64)) + ((y1 >>> ((3 : Int32).toInt64 &&& 63)) &&& (3 : Int64))) + ((y1 >>> ((5 : Int32).toInt64 &&& 63)) &&& (3 : Int64)))), .second, .val (.int (x2 + (x3 &&& (1 : Int32)))), .val (.int (x2 + ((x3 >>> ((1 : Int32) &&& 31)) &&& (1 : Int32)))), .val (.int (x2 + ((x3 >>> ((2 : Int32) &&& 31)) &&& (1 : Int32)))), .val (.ref b1), .val (.ref b5), .val (.ref b8), .val (.ref b12), .val (.ref b17), .val (.int (1 : Int32))] [])
    refine own_by (fun t_ k_ => XS.iload X93.here hx rfl (hb hby at_326) rfl k_) ?_
    show own_Go p e below _ T93 (mkF m 328 #[.val (.int x1), .val (.long y1), .second, .val (.long y2), .second, .val (.long y3), .second, .val (.int x2), .val (.int x3), .val (.int (3 : Int32)), .val (.long ((y1 &&& (7 : Int64)) - (4 : Int64))), .second, .val (.long (((y1 &&& (7 : Int64)) - (4 : Int64)) + ((y1 >>> ((3 : Int32).toInt64 &&& 63)) &&& (3 : Int64)))), .second, .val (.long ((((y1 &&& (7 : Int64)) - (4 : Int64)) + ((y1 >>> ((3 : Int32).toInt64 &&& 63)) &&& (3 : Int64))) + ((y1 >>> ((5 : Int32).toInt64 &&& 63)) &&& (3 : Int64)))), .second, .val (.int (x2 + (x3 &&& (1 : Int32)))), .val (.int (x2 + ((x3 >>> ((1 : Int32) &&& 31)) &&& (1 : Int32)))), .val (.int (x2 + ((x3 >>> ((2 : Int32) &&& 31)) &&& (1 : Int32)))), .val (.ref b1), .val (.ref b5), .val (.ref b8), .val (.ref b12), .val (.ref b17), .val (.int (1 : Int32))] [(.int (1 : Int32))])
    refine own_retZ X93 hx hlk Bd.returns (by decide) (hb hby at_328) e93 (by decide) (by decide) ?_
    exact ⟨rfl, N93⟩
set_option maxRecDepth 65536 in
set_option maxHeartbeats 40000000 in
theorem comes_1 {Post : Tables → Env → Array Value → State → Outcome → State → Prop} (hpost : ∀ tb e args s v u, (limb_1_1.after args s (.returned v) u = true ∧ limb_1_2.after args s (.returned v) u = true ∧ True) → FrameEnd s (.returned v) u (Jvm.fieldLocs frame_1_writes args s ++ Jvm.arrayLocs frame_1_arrays args s ++ Jvm.staticLocs frame_1_statics s) 32 192 → Post tb e args s (.returned v) u) :
    ArmFor flags0 classFile x code maxLocals ret World_1 tables_1 room_1 Calls_1 rest_1 Pre_1 Post := by
  intro l hfl _ _ p e ha hc hk s m args below hf hA hF happ hP
  obtain ⟨hcalls, hrest, hpre⟩ := hP
  obtain ⟨-, -, -, hnamed, -, -, -, hat⟩ := (Spec.applies_iff hf).mp happ
  obtain ⟨hg, hn⟩ := and_e (Cond.before_iff.mp (show (Jvm.Cond.and given_1 narrow_1).before args s = true from hpre))
  obtain ⟨gc, gr0⟩ := and_e hg
  obtain ⟨ga0, gr1⟩ := and_e gr0
  obtain ⟨ga1, gr2⟩ := and_e gr1
  obtain ⟨ga2, gr3⟩ := and_e gr2
  obtain ⟨ga3, gr4⟩ := and_e gr3
  obtain ⟨ga4, gr5⟩ := and_e gr4
  obtain ⟨w0, w1, w2, w3, w4, w5, rfl⟩ : ∃ w0 w1 w2 w3 w4 w5 : Value, args = #[w0, w1, w2, w3, w4, w5] := by
    have hs : args.size = 6 := by simpa [Cond.value, given_1] using gc
    obtain ⟨L⟩ := args
    match L, hs with
    | [w0, w1, w2, w3, w4, w5], _ => exact ⟨w0, w1, w2, w3, w4, w5, rfl⟩
  have hw := fun d (hd : d ∈ tables_1) => atoms_spec (ws := Jvm.Cond.code x code maxLocals ret :: tables_1) hat d (List.mem_cons_of_mem _ hd)
  have hfit : Fit s := fun {y c} hc i hi => by
    obtain ⟨ha, rfl⟩ := Array.getElem?_eq_some_iff.mp hc
    have q := List.all_eq_true.mp ((Array.all_eq_true_iff_forall_mem.mp hF) _ (Array.getElem_mem ha)) i (List.mem_range.mpr hi)
    simpa [Array.getElem?_eq_getElem hi] using q
  obtain ⟨i0, ei0⟩ := is_v ga0
  obtain rfl : w0 = (.int i0) := Option.some.inj ei0
  obtain ⟨i1, ei1⟩ := isL_v ga1
  obtain rfl : w1 = (.long i1) := Option.some.inj ei1
  obtain ⟨i2, ei2⟩ := isL_v ga2
  obtain rfl : w2 = (.long i2) := Option.some.inj ei2
  obtain ⟨i3, ei3⟩ := isL_v ga3
  obtain rfl : w3 = (.long i3) := Option.some.inj ei3
  obtain ⟨i4, ei4⟩ := is_v ga4
  obtain rfl : w4 = (.int i4) := Option.some.inj ei4
  obtain ⟨i5, ei5⟩ := is_v gr5
  obtain rfl : w5 = (.int i5) := Option.some.inj ei5
  obtain ⟨hN0, hR1⟩ := and_e hn
  obtain ⟨hN1, hR2⟩ := and_e hR1
  have hN2 := hR2
  obtain ⟨a_HOLDS, ev_HOLDS⟩ := exa_v hN0
  have E_HOLDS : Exa s s.heap a_HOLDS "java/lang/Object" := Exa.start ev_HOLDS hN0
  have S_HOLDS : Sta s s.heap "com/example/hedgewalk/hedgewalk/eval/Verdict" "HOLDS" "Ljava/lang/Object;" (.ref a_HOLDS) := Sta.start ev_HOLDS (Or.inr ⟨(own_w hw 42 rfl), (own_w hw 131 rfl)⟩)
  obtain ⟨a_FAILS, ev_FAILS⟩ := exa_v hN1
  have E_FAILS : Exa s s.heap a_FAILS "java/lang/Object" := Exa.start ev_FAILS hN1
  have S_FAILS : Sta s s.heap "com/example/hedgewalk/hedgewalk/eval/Verdict" "FAILS" "Ljava/lang/Object;" (.ref a_FAILS) := Sta.start ev_FAILS (Or.inr ⟨(own_w hw 42 rfl), (own_w hw 133 rfl)⟩)
  obtain ⟨n, o, h1, h2, h3, _, L, rfl, ⟨rfl, N⟩, hq⟩ := rm0 l s _ hw tables_1 i0 i1 i2 i3 i4 i5 a_HOLDS a_FAILS s.heap s.heap.size (Nat.le_refl _) S_HOLDS S_FAILS p e ha hc hk s m _ below hf ((Spec.applies_iff_loose hf).mp happ).1 ⟨rfl, State.Warmed39.refl s, rfl⟩ trivial
  refine ⟨n, _, h1, h2, h3, hpost _ _ _ _ _ _ ⟨Cond.after_iff.mpr rfl, Cond.after_iff.mpr (eq_i res_at (Term.int_eval (1)) rfl), trivial⟩ ⟨hq.1, hq.2.1, (hq.2.2.sift fun y hy => Or.inr (N y hy)).mono (by decide) (by decide)⟩⟩
theorem main_1_1 : Claimed_1_1 := comes_1 fun _ _ _ _ _ _ h hF => ⟨h.1, hF⟩
theorem main_1_2 : Claimed_1_2 := comes_1 fun _ _ _ _ _ _ h hF => ⟨h.2.1, hF⟩
end Jvm.Pilot.@@N@@
namespace Jvm.Pilot.@@N@@
open Jvm Jvm.ClassFile Sem Op Lib Jvm.Free Jvm.Stand Jvm.Pilot.@@N@@.Jvm.D
/-! MADE BY PROGRAM (witnessworld.py) out of the Statement's table words and the real class files: 27 classes; the members and pool entries that the words name. The judged class is class 1, her method 4. -/
namespace start1
open Jvm.ClassFile
def u (s : String) : CpInfo := .utf8 (stringToUtf16 s)
/-- a pool by its gaps: so many unusable entries, then the entry; so many at the end -/
def gap : Nat → List CpInfo → List CpInfo
  | 0, r => r
  | n + 1, r => .unusable :: gap n r
def poolList (es : List (Nat × CpInfo)) (last : Nat) : List CpInfo := es.foldr (fun e r => gap e.1 (e.2 :: r)) (gap last [])
def pool (es : List (Nat × CpInfo)) (last : Nat) : Array CpInfo := ⟨poolList es last⟩
def fileOf (pool : Array CpInfo) (this : Nat) (attrs : Array Attribute := #[]) (ms : Array MethodInfo := #[]) (fl : Nat := 33) (sup : Nat := 0) (ifs : Array Nat := #[]) (fds : Array FieldInfo := #[]) : ClassFile where
  minorVersion := 0
  majorVersion := 65
  constantPool := pool
  accessFlags := fl
  thisClass := this
  superClass := sup
  interfaces := ifs
  fields := fds
  methods := ms
  attributes := attrs
def plain (name : String) (sup : Option ClassId) : Class where
  name := name
  kind := .ordinary
  loader := none
  accessFlags := 33
  super := sup
  interfaces := #[]
  cf := none
  fields := #[]
  methods := #[]
  instanceTypes := #[]
  staticTypes := #[]
  resolved := #[]
  callSites := []
  init := .initialized
  statics := none
  mirror := none

def pool0 : Array CpInfo := pool [(5, u "<init>"), (0, u "()V"), (1, .class_ 10), (1, u "java/lang/Object")] 113

def k0c0 : Code := { maxStack := 0, maxLocals := 1, code := object_method_1_code, exceptionTable := #[], attributes := #[] }
def k0m0 : Method := { name := "<init>", desc := "()V", sig := { parameters := [], returnType := none }, accessFlags := 1, code := some k0c0 }
/-- java/lang/Object -/
def k0 : Class := { plain "java/lang/Object" none with
  accessFlags := 33
  interfaces := #[]
  cf := some (fileOf pool0 8 #[] #[{ accessFlags := 1, nameIndex := 5, descriptorIndex := 6, attributes := #[] }] 33 0 #[] #[])
  fields := #[]
  methods := #[k0m0]
  instanceTypes := #[]
  staticTypes := #[]
  resolved := Array.replicate 124 none
  statics := none }

def pool1 : Array CpInfo := pool [(2, .class_ 4), (0, .nameAndType 5 6), (0, u "java/lang/Object"), (0, u "<init>"), (0, u "()V"), (0, .long 12), (1, .methodref 10 11), (0, .class_ 12), (0, .nameAndType 13 14), (0, u "com/example/hedgewalk/hedgewalk/eval/GoalQueue"), (0, u "succeedBelow"), (0, u "(JLcom/example/hedgewalk/hedgewalk/eval/Agenda;)V"), (0, .methodref 10 16), (0, .nameAndType 17 18), (0, u "failHeldAt"), (0, u "(ILcom/example/hedgewalk/hedgewalk/eval/Agenda;)V"), (0, .methodref 20 21), (0, .class_ 22), (0, .nameAndType 23 24), (0, u "com/example/hedgewalk/hedgewalk/eval/Verdict$Told"), (0, u "isOpen"), (0, u "()Z"), (0, .long 7), (1, .long 4), (1, .long 3), (1, .class_ 32), (0, u "com/example/hedgewalk/hedgewalk/eval/Agenda"), (0, .methodref 31 3), (0, .methodref 20 3), (0, .methodref 10 3), (0, .methodref 10 37), (0, .nameAndType 38 24), (0, u "hasOpen"), (0, .methodref 10 40), (0, .nameAndType 41 42), (0, u "add"), (0, u "(JILcom/example/hedgewalk/hedgewalk/eval/Verdict$Listener;)V"), (0, .methodref 44 45), (0, .class_ 46), (0, .nameAndType 47 48), (0, u "com/example/hedgewalk/hedgewalk/eval/GoalQueueHasOpenPinLaw"), (0, u "limit"), (0, u "(IJ)J"), (0, .methodref 44 50), (0, .nameAndType 51 52), (0, u "step"), (0, u "(Lcom/example/hedgewalk/hedgewalk/eval/GoalQueue;Lcom/example/hedgewalk/hedgewalk/eval/Agenda;IJI)V"), (0, .methodref 44 54), (0, .nameAndType 55 56), (0, u "anyOpen"), (0, u "(ILcom/example/hedgewalk/hedgewalk/eval/Verdict$Told;Lcom/example/hedgewalk/hedgewalk/eval/Verdict$Told;Lcom/example/hedgewalk/hedgewalk/eval/Verdict$Told;)Z"), (3, u "law"), (0, u "(IJJJII)Z")] 9

def k1m0 : Method := { name := "<init>", desc := "()V", sig := { parameters := [], returnType := none }, accessFlags := 1, code := none }
def k1c1 : Code := { maxStack := 4, maxLocals := 3, code := method_2_code, exceptionTable := #[], attributes := #[] }
def k1m1 : Method := { name := "limit", desc := "(IJ)J", sig := { parameters := [.int, .long], returnType := some .long }, accessFlags := 10, code := some k1c1 }
def k1c2 : Code := { maxStack := 4, maxLocals := 6, code := method_3_code, exceptionTable := #[], attributes := #[] }
def k1m2 : Method := { name := "step", desc := "(Lcom/example/hedgewalk/hedgewalk/eval/GoalQueue;Lcom/example/hedgewalk/hedgewalk/eval/Agenda;IJI)V", sig := { parameters := [(.object "com/example/hedgewalk/hedgewalk/eval/GoalQueue"), (.object "com/example/hedgewalk/hedgewalk/eval/Agenda"), .int, .long, .int], returnType := none }, accessFlags := 10, code := some k1c2 }
def k1c3 : Code := { maxStack := 2, maxLocals := 4, code := method_4_code, exceptionTable := #[], attributes := #[] }
def k1m3 : Method := { name := "anyOpen", desc := "(ILcom/example/hedgewalk/hedgewalk/eval/Verdict$Told;Lcom/example/hedgewalk/hedgewalk/eval/Verdict$Told;Lcom/example/hedgewalk/hedgewalk/eval/Verdict$Told;)Z", sig := { parameters := [.int, (.object "com/example/hedgewalk/hedgewalk/eval/Verdict$Told"), (.object "com/example/hedgewalk/hedgewalk/eval/Verdict$Told"), (.object "com/example/hedgewalk/hedgewalk/eval/Verdict$Told")], returnType := some .boolean }, accessFlags := 10, code := some k1c3 }
def k1c4 : Code := { maxStack := 8, maxLocals := 25, code := code, exceptionTable := #[], attributes := #[] }
def k1m4 : Method := { name := "law", desc := "(IJJJII)Z", sig := { parameters := [.int, .long, .long, .long, .int, .int], returnType := some .boolean }, accessFlags := 9, code := some k1c4 }
/-- com/example/hedgewalk/hedgewalk/eval/GoalQueueHasOpenPinLaw -/
def k1 : Class := { plain "com/example/hedgewalk/hedgewalk/eval/GoalQueueHasOpenPinLaw" (some 0) with
  accessFlags := 49
  interfaces := #[]
  cf := some (fileOf pool1 44 #[] #[{ accessFlags := 1, nameIndex := 5, descriptorIndex := 6, attributes := #[] }, { accessFlags := 10, nameIndex := 47, descriptorIndex := 48, attributes := #[] }, { accessFlags := 10, nameIndex := 51, descriptorIndex := 52, attributes := #[] }, { accessFlags := 10, nameIndex := 55, descriptorIndex := 56, attributes := #[] }, { accessFlags := 9, nameIndex := 60, descriptorIndex := 61, attributes := #[] }] 49 2 #[] #[])
  fields := #[]
  methods := #[k1m0, k1m1, k1m2, k1m3, k1m4]
  instanceTypes := #[]
  staticTypes := #[]
  resolved := Array.replicate 71 none
  statics := none }

def pool2 : Array CpInfo := pool [(1, .methodref 2 3), (0, .class_ 4), (0, .nameAndType 5 6), (0, u "java/lang/Object"), (0, u "<init>"), (0, u "()V"), (0, .class_ 8), (0, u "java/util/ArrayDeque"), (0, .methodref 7 3), (0, .fieldref 11 12), (0, .class_ 13), (0, .nameAndType 14 15), (0, u "com/example/hedgewalk/hedgewalk/eval/Agenda"), (0, u "listeners"), (0, u "Ljava/util/ArrayDeque;"), (0, .fieldref 11 17), (0, .nameAndType 18 15), (0, u "values"), (0, .methodref 20 21), (0, .class_ 22), (0, .nameAndType 23 24), (0, u "com/example/hedgewalk/hedgewalk/eval/Verdict"), (0, u "settle"), (0, u "(Z)Ljava/lang/Object;"), (30, u "(Lcom/example/hedgewalk/hedgewalk/eval/Verdict;Z)V")] 4

def k2c0 : Code := { maxStack := 3, maxLocals := 1, code := prog_29_method_1_code, exceptionTable := #[], attributes := #[] }
def k2m0 : Method := { name := "<init>", desc := "()V", sig := { parameters := [], returnType := none }, accessFlags := 0, code := some k2c0 }
def k2c1 : Code := { maxStack := 2, maxLocals := 4, code := prog_29_method_2_code, exceptionTable := #[], attributes := #[] }
def k2m1 : Method := { name := "settle", desc := "(Lcom/example/hedgewalk/hedgewalk/eval/Verdict;Z)V", sig := { parameters := [(.object "com/example/hedgewalk/hedgewalk/eval/Verdict"), .boolean], returnType := none }, accessFlags := 0, code := some k2c1 }
/-- com/example/hedgewalk/hedgewalk/eval/Agenda -/
def k2 : Class := { plain "com/example/hedgewalk/hedgewalk/eval/Agenda" (some 0) with
  accessFlags := 48
  interfaces := #[]
  cf := some (fileOf pool2 11 #[] #[{ accessFlags := 0, nameIndex := 5, descriptorIndex := 6, attributes := #[] }, { accessFlags := 0, nameIndex := 23, descriptorIndex := 55, attributes := #[] }] 48 2 #[] #[{ accessFlags := 18, nameIndex := 14, descriptorIndex := 15, attributes := #[] }, { accessFlags := 18, nameIndex := 18, descriptorIndex := 15, attributes := #[] }])
  fields := #[{ name := "listeners", type := (.object "java/util/ArrayDeque"), accessFlags := 18, slot := 0, constantValue := 0 }, { name := "values", type := (.object "java/util/ArrayDeque"), accessFlags := 18, slot := 1, constantValue := 0 }]
  methods := #[k2m0, k2m1]
  instanceTypes := #[(.object "java/util/ArrayDeque"), (.object "java/util/ArrayDeque")]
  staticTypes := #[]
  resolved := Array.replicate 60 none
  statics := none }

def pool3 : Array CpInfo := pool [(8, .class_ 10), (1, u "java/lang/Iterable"), (24, .class_ 36), (0, u "java/lang/Object")] 25

/-- java/lang/Iterable -/
def k3 : Class := { plain "java/lang/Iterable" (some 0) with
  accessFlags := 1537
  interfaces := #[]
  cf := some (fileOf pool3 8 #[] #[] 1537 35 #[] #[])
  fields := #[]
  methods := #[]
  instanceTypes := #[]
  staticTypes := #[]
  resolved := Array.replicate 62 none
  statics := none }

def pool4 : Array CpInfo := pool [(10, .class_ 12), (1, u "java/util/Collection"), (47, .class_ 61), (0, u "java/lang/Object"), (0, .class_ 63), (0, u "java/lang/Iterable")] 51

/-- java/util/Collection -/
def k4 : Class := { plain "java/util/Collection" (some 0) with
  accessFlags := 1537
  interfaces := #[3]
  cf := some (fileOf pool4 10 #[] #[] 1537 60 #[62] #[])
  fields := #[]
  methods := #[]
  instanceTypes := #[]
  staticTypes := #[]
  resolved := Array.replicate 115 none
  statics := none }

def pool5 : Array CpInfo := pool [(1, .methodref 2 3), (0, .class_ 4), (0, .nameAndType 5 6), (0, u "java/lang/Object"), (0, u "<init>"), (0, u "()V"), (1, .class_ 10), (1, u "java/util/AbstractCollection"), (66, .class_ 78), (0, u "java/util/Collection")] 81

def k5c0 : Code := { maxStack := 1, maxLocals := 1, code := jdk_22_method_1_code, exceptionTable := #[], attributes := #[] }
def k5m0 : Method := { name := "<init>", desc := "()V", sig := { parameters := [], returnType := none }, accessFlags := 4, code := some k5c0 }
/-- java/util/AbstractCollection -/
def k5 : Class := { plain "java/util/AbstractCollection" (some 0) with
  accessFlags := 1057
  interfaces := #[4]
  cf := some (fileOf pool5 8 #[] #[{ accessFlags := 4, nameIndex := 5, descriptorIndex := 6, attributes := #[] }] 1057 2 #[77] #[])
  fields := #[]
  methods := #[k5m0]
  instanceTypes := #[]
  staticTypes := #[]
  resolved := Array.replicate 160 none
  statics := none }

def pool6 : Array CpInfo := pool [(1, .class_ 2), (0, u "java/util/Queue"), (0, .class_ 4), (0, u "java/lang/Object"), (0, .class_ 6), (0, u "java/util/Collection")] 14

/-- java/util/Queue -/
def k6 : Class := { plain "java/util/Queue" (some 0) with
  accessFlags := 1537
  interfaces := #[4]
  cf := some (fileOf pool6 1 #[] #[] 1537 3 #[5] #[])
  fields := #[]
  methods := #[]
  instanceTypes := #[]
  staticTypes := #[]
  resolved := Array.replicate 21 none
  statics := none }

def pool7 : Array CpInfo := pool [(8, .class_ 10), (1, u "java/util/SequencedCollection"), (15, .class_ 27), (0, u "java/lang/Object"), (0, .class_ 29), (0, u "java/util/Collection")] 27

/-- java/util/SequencedCollection -/
def k7 : Class := { plain "java/util/SequencedCollection" (some 0) with
  accessFlags := 1537
  interfaces := #[4]
  cf := some (fileOf pool7 8 #[] #[] 1537 26 #[28] #[])
  fields := #[]
  methods := #[]
  instanceTypes := #[]
  staticTypes := #[]
  resolved := Array.replicate 57 none
  statics := none }

def pool8 : Array CpInfo := pool [(8, .class_ 10), (1, u "java/util/Deque"), (2, .class_ 14), (0, u "java/lang/Object"), (0, .class_ 16), (0, u "java/util/Queue"), (0, .class_ 18), (0, u "java/util/SequencedCollection")] 51

/-- java/util/Deque -/
def k8 : Class := { plain "java/util/Deque" (some 0) with
  accessFlags := 1537
  interfaces := #[6, 7]
  cf := some (fileOf pool8 8 #[] #[] 1537 13 #[15, 17] #[])
  fields := #[]
  methods := #[]
  instanceTypes := #[]
  staticTypes := #[]
  resolved := Array.replicate 70 none
  statics := none }

def pool9 : Array CpInfo := pool [(1, .class_ 2), (0, u "java/lang/Cloneable"), (0, .class_ 4), (0, u "java/lang/Object")] 2

/-- java/lang/Cloneable -/
def k9 : Class := { plain "java/lang/Cloneable" (some 0) with
  accessFlags := 1537
  interfaces := #[]
  cf := some (fileOf pool9 1 #[] #[] 1537 3 #[] #[])
  fields := #[]
  methods := #[]
  instanceTypes := #[]
  staticTypes := #[]
  resolved := Array.replicate 7 none
  statics := none }

def pool10 : Array CpInfo := pool [(1, .class_ 2), (0, u "java/io/Serializable"), (0, .class_ 4), (0, u "java/lang/Object")] 2

/-- java/io/Serializable -/
def k10 : Class := { plain "java/io/Serializable" (some 0) with
  accessFlags := 1537
  interfaces := #[]
  cf := some (fileOf pool10 1 #[] #[] 1537 3 #[] #[])
  fields := #[]
  methods := #[]
  instanceTypes := #[]
  staticTypes := #[]
  resolved := Array.replicate 7 none
  statics := none }

def pool11 : Array CpInfo := pool [(3, .fieldref 4 5), (0, .class_ 6), (0, .nameAndType 7 8), (0, u "java/util/ArrayDeque"), (0, u "elements"), (0, u "[Ljava/lang/Object;"), (13, u "tail"), (0, u "I"), (2, u "head"), (12, u "<init>"), (2, .methodref 43 44), (0, .class_ 45), (0, .nameAndType 39 46), (0, u "java/util/AbstractCollection"), (0, u "()V"), (0, .class_ 48), (0, u "java/lang/Object"), (82, .class_ 132), (0, u "java/util/ArrayDeque$DeqIterator"), (3, .class_ 137), (0, u "java/util/ArrayDeque$DescendingIterator"), (1, .class_ 140), (0, u "java/util/ArrayDeque$DeqSpliterator"), (137, .class_ 279), (0, u "java/util/Deque"), (0, .class_ 281), (0, u "java/lang/Cloneable"), (0, .class_ 283), (0, u "java/io/Serializable"), (0, u "MAX_ARRAY_SIZE"), (1, u "serialVersionUID"), (0, u "J")] 150

def k11c0 : Code := { maxStack := 2, maxLocals := 1, code := jdk_21_method_3_code, exceptionTable := #[], attributes := #[] }
def k11m0 : Method := { name := "<init>", desc := "()V", sig := { parameters := [], returnType := none }, accessFlags := 1, code := some k11c0 }
/-- java/util/ArrayDeque -/
def k11 : Class := { plain "java/util/ArrayDeque" (some 5) with
  accessFlags := 33
  interfaces := #[8, 9, 10]
  cf := some (fileOf pool11 4 #[.nestMembers #[139, 136, 131]] #[{ accessFlags := 1, nameIndex := 39, descriptorIndex := 46, attributes := #[] }] 33 43 #[278, 280, 282] #[{ accessFlags := 128, nameIndex := 7, descriptorIndex := 8, attributes := #[] }, { accessFlags := 128, nameIndex := 26, descriptorIndex := 23, attributes := #[] }, { accessFlags := 128, nameIndex := 22, descriptorIndex := 23, attributes := #[] }, { accessFlags := 26, nameIndex := 284, descriptorIndex := 23, attributes := #[] }, { accessFlags := 26, nameIndex := 286, descriptorIndex := 287, attributes := #[] }])
  fields := #[{ name := "elements", type := (.array (.object "java/lang/Object")), accessFlags := 128, slot := 0, constantValue := 0 }, { name := "head", type := .int, accessFlags := 128, slot := 1, constantValue := 0 }, { name := "tail", type := .int, accessFlags := 128, slot := 2, constantValue := 0 }, { name := "MAX_ARRAY_SIZE", type := .int, accessFlags := 26, slot := 0, constantValue := 0 }, { name := "serialVersionUID", type := .long, accessFlags := 26, slot := 1, constantValue := 0 }]
  methods := #[k11m0]
  instanceTypes := #[(.array (.object "java/lang/Object")), .int, .int]
  staticTypes := #[.int, .long]
  resolved := Array.replicate 438 none
  statics := none }

def pool12 : Array CpInfo := pool [(1, .methodref 2 3), (0, .class_ 4), (0, .nameAndType 5 6), (0, u "com/example/hedgewalk/hedgewalk/eval/Verdict"), (0, u "<init>"), (0, u "(Ljava/lang/Object;)V"), (0, .methodref 8 9), (0, .class_ 10), (0, .nameAndType 5 11), (0, u "java/lang/Object"), (0, u "()V"), (0, .fieldref 2 13), (0, .nameAndType 14 15), (0, u "waiting"), (0, u "Ljava/lang/Object;"), (3, u "()Z"), (2, u "FALSE"), (0, u "Lcom/example/hedgewalk/hedgewalk/eval/Verdict;"), (3, .class_ 28), (0, u "com/example/hedgewalk/hedgewalk/eval/Verdict$All"), (11, u "TRUE"), (7, .class_ 49), (0, u "com/example/hedgewalk/hedgewalk/eval/Verdict$Any"), (2, .class_ 53), (0, u "com/example/hedgewalk/hedgewalk/eval/Verdict$Not"), (3, .fieldref 2 58), (0, .nameAndType 59 15), (0, u "HOLDS"), (0, .fieldref 2 61), (0, .nameAndType 62 15), (0, u "FAILS"), (0, .methodref 2 64), (0, .nameAndType 65 19), (0, u "isOpen"), (15, .class_ 82), (0, u "com/example/hedgewalk/hedgewalk/eval/Verdict$Listener"), (17, u "settle"), (0, u "(Z)Ljava/lang/Object;"), (6, .class_ 109), (0, u "com/example/hedgewalk/hedgewalk/eval/Verdict$Some"), (0, .class_ 111), (0, u "com/example/hedgewalk/hedgewalk/eval/Verdict$Told")] 7

def k12c0 : Code := { maxStack := 2, maxLocals := 1, code := prog_78_method_1_code, exceptionTable := #[], attributes := #[] }
def k12m0 : Method := { name := "<init>", desc := "()V", sig := { parameters := [], returnType := none }, accessFlags := 0, code := some k12c0 }
def k12c1 : Code := { maxStack := 2, maxLocals := 2, code := prog_78_method_2_code, exceptionTable := #[], attributes := #[] }
def k12m1 : Method := { name := "<init>", desc := "(Ljava/lang/Object;)V", sig := { parameters := [(.object "java/lang/Object")], returnType := none }, accessFlags := 2, code := some k12c1 }
def k12c2 : Code := { maxStack := 2, maxLocals := 1, code := prog_78_method_8_code, exceptionTable := #[], attributes := #[] }
def k12m2 : Method := { name := "isOpen", desc := "()Z", sig := { parameters := [], returnType := some .boolean }, accessFlags := 0, code := some k12c2 }
def k12c3 : Code := { maxStack := 2, maxLocals := 3, code := prog_78_method_12_code, exceptionTable := #[], attributes := #[] }
def k12m3 : Method := { name := "settle", desc := "(Z)Ljava/lang/Object;", sig := { parameters := [.boolean], returnType := some (.object "java/lang/Object") }, accessFlags := 0, code := some k12c3 }
/-- com/example/hedgewalk/hedgewalk/eval/Verdict -/
def k12 : Class := { plain "com/example/hedgewalk/hedgewalk/eval/Verdict" (some 0) with
  accessFlags := 32
  interfaces := #[]
  cf := some (fileOf pool12 2 #[.nestMembers #[52, 48, 108, 27, 110, 81]] #[{ accessFlags := 0, nameIndex := 5, descriptorIndex := 11, attributes := #[] }, { accessFlags := 2, nameIndex := 5, descriptorIndex := 6, attributes := #[] }, { accessFlags := 0, nameIndex := 65, descriptorIndex := 19, attributes := #[] }, { accessFlags := 0, nameIndex := 100, descriptorIndex := 101, attributes := #[] }] 32 8 #[] #[{ accessFlags := 26, nameIndex := 59, descriptorIndex := 15, attributes := #[] }, { accessFlags := 26, nameIndex := 62, descriptorIndex := 15, attributes := #[] }, { accessFlags := 24, nameIndex := 40, descriptorIndex := 23, attributes := #[] }, { accessFlags := 24, nameIndex := 22, descriptorIndex := 23, attributes := #[] }, { accessFlags := 2, nameIndex := 14, descriptorIndex := 15, attributes := #[] }])
  fields := #[{ name := "HOLDS", type := (.object "java/lang/Object"), accessFlags := 26, slot := 0, constantValue := 0 }, { name := "FAILS", type := (.object "java/lang/Object"), accessFlags := 26, slot := 1, constantValue := 0 }, { name := "TRUE", type := (.object "com/example/hedgewalk/hedgewalk/eval/Verdict"), accessFlags := 24, slot := 2, constantValue := 0 }, { name := "FALSE", type := (.object "com/example/hedgewalk/hedgewalk/eval/Verdict"), accessFlags := 24, slot := 3, constantValue := 0 }, { name := "waiting", type := (.object "java/lang/Object"), accessFlags := 2, slot := 0, constantValue := 0 }]
  methods := #[k12m0, k12m1, k12m2, k12m3]
  instanceTypes := #[(.object "java/lang/Object")]
  staticTypes := #[(.object "java/lang/Object"), (.object "java/lang/Object"), (.object "com/example/hedgewalk/hedgewalk/eval/Verdict"), (.object "com/example/hedgewalk/hedgewalk/eval/Verdict")]
  resolved := Array.replicate 119 none
  statics := some 0 }

def pool13 : Array CpInfo := pool [(1, .class_ 2), (0, u "com/example/hedgewalk/hedgewalk/eval/Verdict$Listener"), (0, .class_ 4), (0, u "java/lang/Object"), (0, u "settled"), (0, u "(ZLcom/example/hedgewalk/hedgewalk/eval/Agenda;)V"), (5, .class_ 13), (0, u "com/example/hedgewalk/hedgewalk/eval/Verdict")] 2

def k13m0 : Method := { name := "settled", desc := "(ZLcom/example/hedgewalk/hedgewalk/eval/Agenda;)V", sig := { parameters := [.boolean, (.object "com/example/hedgewalk/hedgewalk/eval/Agenda")], returnType := none }, accessFlags := 1025, code := none }
/-- com/example/hedgewalk/hedgewalk/eval/Verdict$Listener -/
def k13 : Class := { plain "com/example/hedgewalk/hedgewalk/eval/Verdict$Listener" (some 0) with
  accessFlags := 1536
  interfaces := #[]
  cf := some (fileOf pool13 1 #[.nestHost 12] #[{ accessFlags := 1025, nameIndex := 5, descriptorIndex := 6, attributes := #[] }] 1536 3 #[] #[])
  fields := #[]
  methods := #[k13m0]
  instanceTypes := #[]
  staticTypes := #[]
  resolved := Array.replicate 16 none
  statics := none }

def pool14 : Array CpInfo := pool [(1, .methodref 2 3), (0, .class_ 4), (0, .nameAndType 5 6), (0, u "com/example/hedgewalk/hedgewalk/eval/Verdict"), (0, u "<init>"), (0, u "()V"), (0, .methodref 8 9), (0, .class_ 10), (0, .nameAndType 11 12), (0, u "com/example/hedgewalk/hedgewalk/eval/Agenda"), (0, u "settle"), (0, u "(Lcom/example/hedgewalk/hedgewalk/eval/Verdict;Z)V"), (0, .class_ 14), (0, u "com/example/hedgewalk/hedgewalk/eval/Verdict$Told"), (0, .class_ 16), (0, u "com/example/hedgewalk/hedgewalk/eval/Verdict$Listener"), (2, u "settled"), (0, u "(ZLcom/example/hedgewalk/hedgewalk/eval/Agenda;)V")] 6

def k14c0 : Code := { maxStack := 1, maxLocals := 1, code := prog_84_method_1_code, exceptionTable := #[], attributes := #[] }
def k14m0 : Method := { name := "<init>", desc := "()V", sig := { parameters := [], returnType := none }, accessFlags := 0, code := some k14c0 }
def k14c1 : Code := { maxStack := 3, maxLocals := 3, code := prog_84_method_2_code, exceptionTable := #[], attributes := #[] }
def k14m1 : Method := { name := "settled", desc := "(ZLcom/example/hedgewalk/hedgewalk/eval/Agenda;)V", sig := { parameters := [.boolean, (.object "com/example/hedgewalk/hedgewalk/eval/Agenda")], returnType := none }, accessFlags := 1, code := some k14c1 }
/-- com/example/hedgewalk/hedgewalk/eval/Verdict$Told -/
def k14 : Class := { plain "com/example/hedgewalk/hedgewalk/eval/Verdict$Told" (some 12) with
  accessFlags := 48
  interfaces := #[13]
  cf := some (fileOf pool14 13 #[.nestHost 2] #[{ accessFlags := 0, nameIndex := 5, descriptorIndex := 6, attributes := #[] }, { accessFlags := 1, nameIndex := 19, descriptorIndex := 20, attributes := #[] }] 48 2 #[15] #[])
  fields := #[]
  methods := #[k14m0, k14m1]
  instanceTypes := #[(.object "java/lang/Object")]
  staticTypes := #[]
  resolved := Array.replicate 27 none
  statics := none }

def pool15 : Array CpInfo := pool [(1, .methodref 2 3), (0, .class_ 4), (0, .nameAndType 5 6), (0, u "java/lang/Object"), (0, u "<init>"), (0, u "()V"), (0, .fieldref 8 9), (0, .class_ 10), (0, .nameAndType 11 12), (0, u "com/example/hedgewalk/hedgewalk/eval/GoalQueue"), (0, u "keys"), (0, u "[J"), (0, .fieldref 8 14), (0, .nameAndType 15 16), (0, u "holders"), (0, u "[I"), (0, .class_ 18), (0, u "com/example/hedgewalk/hedgewalk/eval/Verdict$Listener"), (0, .fieldref 8 20), (0, .nameAndType 21 22), (0, u "goals"), (0, u "[Lcom/example/hedgewalk/hedgewalk/eval/Verdict$Listener;"), (0, .fieldref 8 24), (0, .nameAndType 25 26), (0, u "firstOpen"), (0, u "I"), (0, .fieldref 8 28), (0, .nameAndType 29 26), (0, u "size"), (1, .class_ 33), (1, u "java/util/Arrays"), (9, .interfaceMethodref 17 44), (0, .nameAndType 45 46), (0, u "settled"), (0, u "(ZLcom/example/hedgewalk/hedgewalk/eval/Agenda;)V"), (0, .methodref 8 48), (0, .nameAndType 49 6), (0, u "dropSettled"), (0, .methodref 51 52), (0, .class_ 53), (0, .nameAndType 54 55), (0, u "java/lang/Math"), (0, u "min"), (0, u "(II)I"), (0, .methodref 57 58), (0, .class_ 59), (0, .nameAndType 60 61), (0, u "java/lang/System"), (0, u "arraycopy"), (0, u "(Ljava/lang/Object;ILjava/lang/Object;II)V"), (0, .methodref 31 63), (0, .nameAndType 64 65), (0, u "fill"), (0, u "([Ljava/lang/Object;IILjava/lang/Object;)V"), (2, u "hasOpen"), (0, u "()Z"), (1, u "add"), (0, u "(JILcom/example/hedgewalk/hedgewalk/eval/Verdict$Listener;)V"), (0, u "succeedBelow"), (0, u "(JLcom/example/hedgewalk/hedgewalk/eval/Agenda;)V"), (0, u "failHeldAt"), (0, u "(ILcom/example/hedgewalk/hedgewalk/eval/Agenda;)V")] 6

def k15c0 : Code := { maxStack := 2, maxLocals := 1, code := prog_34_method_1_code, exceptionTable := #[], attributes := #[] }
def k15m0 : Method := { name := "<init>", desc := "()V", sig := { parameters := [], returnType := none }, accessFlags := 0, code := some k15c0 }
def k15c1 : Code := { maxStack := 2, maxLocals := 1, code := prog_34_method_2_code, exceptionTable := #[], attributes := #[] }
def k15m1 : Method := { name := "hasOpen", desc := "()Z", sig := { parameters := [], returnType := some .boolean }, accessFlags := 0, code := some k15c1 }
def k15c2 : Code := { maxStack := 4, maxLocals := 5, code := prog_34_method_3_code, exceptionTable := #[], attributes := #[] }
def k15m2 : Method := { name := "add", desc := "(JILcom/example/hedgewalk/hedgewalk/eval/Verdict$Listener;)V", sig := { parameters := [.long, .int, (.object "com/example/hedgewalk/hedgewalk/eval/Verdict$Listener")], returnType := none }, accessFlags := 0, code := some k15c2 }
def k15c3 : Code := { maxStack := 4, maxLocals := 4, code := prog_34_method_4_code, exceptionTable := #[], attributes := #[] }
def k15m3 : Method := { name := "succeedBelow", desc := "(JLcom/example/hedgewalk/hedgewalk/eval/Agenda;)V", sig := { parameters := [.long, (.object "com/example/hedgewalk/hedgewalk/eval/Agenda")], returnType := none }, accessFlags := 0, code := some k15c3 }
def k15c4 : Code := { maxStack := 3, maxLocals := 3, code := prog_34_method_5_code, exceptionTable := #[], attributes := #[] }
def k15m4 : Method := { name := "failHeldAt", desc := "(ILcom/example/hedgewalk/hedgewalk/eval/Agenda;)V", sig := { parameters := [.int, (.object "com/example/hedgewalk/hedgewalk/eval/Agenda")], returnType := none }, accessFlags := 0, code := some k15c4 }
def k15c5 : Code := { maxStack := 5, maxLocals := 2, code := prog_34_method_6_code, exceptionTable := #[], attributes := #[] }
def k15m5 : Method := { name := "dropSettled", desc := "()V", sig := { parameters := [], returnType := none }, accessFlags := 2, code := some k15c5 }
/-- com/example/hedgewalk/hedgewalk/eval/GoalQueue -/
def k15 : Class := { plain "com/example/hedgewalk/hedgewalk/eval/GoalQueue" (some 0) with
  accessFlags := 48
  interfaces := #[]
  cf := some (fileOf pool15 8 #[] #[{ accessFlags := 0, nameIndex := 5, descriptorIndex := 6, attributes := #[] }, { accessFlags := 0, nameIndex := 68, descriptorIndex := 69, attributes := #[] }, { accessFlags := 0, nameIndex := 71, descriptorIndex := 72, attributes := #[] }, { accessFlags := 0, nameIndex := 73, descriptorIndex := 74, attributes := #[] }, { accessFlags := 0, nameIndex := 75, descriptorIndex := 76, attributes := #[] }, { accessFlags := 2, nameIndex := 49, descriptorIndex := 6, attributes := #[] }] 48 2 #[] #[{ accessFlags := 2, nameIndex := 11, descriptorIndex := 12, attributes := #[] }, { accessFlags := 2, nameIndex := 15, descriptorIndex := 16, attributes := #[] }, { accessFlags := 2, nameIndex := 21, descriptorIndex := 22, attributes := #[] }, { accessFlags := 2, nameIndex := 29, descriptorIndex := 26, attributes := #[] }, { accessFlags := 2, nameIndex := 25, descriptorIndex := 26, attributes := #[] }])
  fields := #[{ name := "keys", type := (.array .long), accessFlags := 2, slot := 0, constantValue := 0 }, { name := "holders", type := (.array .int), accessFlags := 2, slot := 1, constantValue := 0 }, { name := "goals", type := (.array (.object "com/example/hedgewalk/hedgewalk/eval/Verdict$Listener")), accessFlags := 2, slot := 2, constantValue := 0 }, { name := "size", type := .int, accessFlags := 2, slot := 3, constantValue := 0 }, { name := "firstOpen", type := .int, accessFlags := 2, slot := 4, constantValue := 0 }]
  methods := #[k15m0, k15m1, k15m2, k15m3, k15m4, k15m5]
  instanceTypes := #[(.array .long), (.array .int), (.array (.object "com/example/hedgewalk/hedgewalk/eval/Verdict$Listener")), .int, .int]
  staticTypes := #[]
  resolved := Array.replicate 83 none
  statics := none }

def pool16 : Array CpInfo := pool [(1, .class_ 2), (0, u "java/lang/Math"), (1, .class_ 6), (1, u "java/lang/Object"), (0, u "<init>"), (0, u "()V"), (89, .class_ 100), (1, u "java/lang/Math$RandomNumberGeneratorHolder"), (71, u "negativeZeroFloatBits"), (0, u "J"), (2, u "negativeZeroDoubleBits"), (24, u "min"), (43, u "$assertionsDisabled"), (0, u "Z"), (88, u "(II)I"), (2, u "twoToTheDoubleScaleDown"), (0, u "D"), (4, u "twoToTheDoubleScaleUp"), (9, u "E"), (3, u "PI"), (2, u "TAU"), (2, u "DEGREES_TO_RADIANS"), (0, u "RADIANS_TO_DEGREES")] 94

def k16m0 : Method := { name := "<init>", desc := "()V", sig := { parameters := [], returnType := none }, accessFlags := 2, code := none }
def k16c1 : Code := { maxStack := 2, maxLocals := 2, code := jdk_29_method_69_code, exceptionTable := #[], attributes := #[] }
def k16m1 : Method := { name := "min", desc := "(II)I", sig := { parameters := [.int, .int], returnType := some .int }, accessFlags := 9, code := some k16c1 }
/-- java/lang/Math -/
def k16 : Class := { plain "java/lang/Math" (some 0) with
  accessFlags := 49
  interfaces := #[]
  cf := some (fileOf pool16 1 #[.nestMembers #[98]] #[{ accessFlags := 2, nameIndex := 7, descriptorIndex := 8, attributes := #[] }, { accessFlags := 9, nameIndex := 201, descriptorIndex := 335, attributes := #[] }] 49 4 #[] #[{ accessFlags := 25, nameIndex := 354, descriptorIndex := 339, attributes := #[] }, { accessFlags := 25, nameIndex := 358, descriptorIndex := 339, attributes := #[] }, { accessFlags := 25, nameIndex := 361, descriptorIndex := 339, attributes := #[] }, { accessFlags := 26, nameIndex := 364, descriptorIndex := 339, attributes := #[] }, { accessFlags := 26, nameIndex := 365, descriptorIndex := 339, attributes := #[] }, { accessFlags := 26, nameIndex := 172, descriptorIndex := 173, attributes := #[] }, { accessFlags := 26, nameIndex := 176, descriptorIndex := 173, attributes := #[] }, { accessFlags := 8, nameIndex := 344, descriptorIndex := 339, attributes := #[] }, { accessFlags := 8, nameIndex := 338, descriptorIndex := 339, attributes := #[] }, { accessFlags := 4120, nameIndex := 245, descriptorIndex := 246, attributes := #[] }])
  fields := #[{ name := "E", type := .double, accessFlags := 25, slot := 0, constantValue := 0 }, { name := "PI", type := .double, accessFlags := 25, slot := 1, constantValue := 0 }, { name := "TAU", type := .double, accessFlags := 25, slot := 2, constantValue := 0 }, { name := "DEGREES_TO_RADIANS", type := .double, accessFlags := 26, slot := 3, constantValue := 0 }, { name := "RADIANS_TO_DEGREES", type := .double, accessFlags := 26, slot := 4, constantValue := 0 }, { name := "negativeZeroFloatBits", type := .long, accessFlags := 26, slot := 5, constantValue := 0 }, { name := "negativeZeroDoubleBits", type := .long, accessFlags := 26, slot := 6, constantValue := 0 }, { name := "twoToTheDoubleScaleUp", type := .double, accessFlags := 8, slot := 7, constantValue := 0 }, { name := "twoToTheDoubleScaleDown", type := .double, accessFlags := 8, slot := 8, constantValue := 0 }, { name := "$assertionsDisabled", type := .boolean, accessFlags := 4120, slot := 9, constantValue := 0 }]
  methods := #[k16m0, k16m1]
  instanceTypes := #[]
  staticTypes := #[.double, .double, .double, .double, .double, .long, .long, .double, .double, .boolean]
  resolved := Array.replicate 460 none
  statics := none }

def pool17 : Array CpInfo := pool [(2, .class_ 4), (1, u "java/lang/Object"), (0, u "<init>"), (0, u "()V"), (1, .class_ 10), (1, u "java/lang/System"), (0, u "allowSecurityManager"), (0, u "I"), (16, u "cons"), (0, u "Ljava/io/Console;"), (77, .class_ 110), (1, u "java/lang/System$CallersHolder"), (43, u "initialErrStream"), (0, u "Ljava/io/PrintStream;"), (19, u "security"), (0, u "Ljava/lang/SecurityManager;"), (31, .class_ 209), (0, u "java/lang/System$1"), (7, u "props"), (0, u "Ljava/util/Properties;"), (2, u "lineSeparator"), (0, u "Ljava/lang/String;"), (96, .class_ 321), (1, u "java/lang/System$LoggerFinder"), (5, .class_ 328), (0, u "java/lang/System$Logger"), (67, u "err"), (2, u "out"), (91, u "notSupportedJnuEncoding"), (15, u "in"), (17, u "initialIn"), (0, u "Ljava/io/InputStream;"), (35, u "bootLayer"), (0, u "Ljava/lang/ModuleLayer;"), (99, .class_ 664), (0, u "java/lang/System$2"), (9, u "NEVER"), (2, u "MAYBE"), (49, u "arraycopy"), (0, u "(Ljava/lang/Object;ILjava/lang/Object;II)V"), (72, .class_ 802), (0, u "java/lang/System$Logger$Level")] 31

def k17m0 : Method := { name := "<init>", desc := "()V", sig := { parameters := [], returnType := none }, accessFlags := 2, code := none }
def k17m1 : Method := { name := "arraycopy", desc := "(Ljava/lang/Object;ILjava/lang/Object;II)V", sig := { parameters := [(.object "java/lang/Object"), .int, (.object "java/lang/Object"), .int, .int], returnType := none }, accessFlags := 265, code := none }
/-- java/lang/System -/
def k17 : Class := { plain "java/lang/System" (some 0) with
  accessFlags := 49
  interfaces := #[]
  cf := some (fileOf pool17 8 #[.nestMembers #[319, 327, 801, 108, 663, 208]] #[{ accessFlags := 2, nameIndex := 5, descriptorIndex := 6, attributes := #[] }, { accessFlags := 265, nameIndex := 727, descriptorIndex := 728, attributes := #[] }] 49 2 #[] #[{ accessFlags := 25, nameIndex := 507, descriptorIndex := 526, attributes := #[] }, { accessFlags := 25, nameIndex := 399, descriptorIndex := 155, attributes := #[] }, { accessFlags := 25, nameIndex := 396, descriptorIndex := 155, attributes := #[] }, { accessFlags := 10, nameIndex := 525, descriptorIndex := 526, attributes := #[] }, { accessFlags := 26, nameIndex := 674, descriptorIndex := 12, attributes := #[] }, { accessFlags := 26, nameIndex := 677, descriptorIndex := 12, attributes := #[] }, { accessFlags := 10, nameIndex := 11, descriptorIndex := 12, attributes := #[] }, { accessFlags := 74, nameIndex := 175, descriptorIndex := 176, attributes := #[] }, { accessFlags := 10, nameIndex := 491, descriptorIndex := 222, attributes := #[] }, { accessFlags := 74, nameIndex := 29, descriptorIndex := 30, attributes := #[] }, { accessFlags := 74, nameIndex := 154, descriptorIndex := 155, attributes := #[] }, { accessFlags := 10, nameIndex := 217, descriptorIndex := 218, attributes := #[] }, { accessFlags := 10, nameIndex := 221, descriptorIndex := 222, attributes := #[] }, { accessFlags := 8, nameIndex := 562, descriptorIndex := 563, attributes := #[] }])
  fields := #[{ name := "in", type := (.object "java/io/InputStream"), accessFlags := 25, slot := 0, constantValue := 0 }, { name := "out", type := (.object "java/io/PrintStream"), accessFlags := 25, slot := 1, constantValue := 0 }, { name := "err", type := (.object "java/io/PrintStream"), accessFlags := 25, slot := 2, constantValue := 0 }, { name := "initialIn", type := (.object "java/io/InputStream"), accessFlags := 10, slot := 3, constantValue := 0 }, { name := "NEVER", type := .int, accessFlags := 26, slot := 4, constantValue := 0 }, { name := "MAYBE", type := .int, accessFlags := 26, slot := 5, constantValue := 0 }, { name := "allowSecurityManager", type := .int, accessFlags := 10, slot := 6, constantValue := 0 }, { name := "security", type := (.object "java/lang/SecurityManager"), accessFlags := 74, slot := 7, constantValue := 0 }, { name := "notSupportedJnuEncoding", type := (.object "java/lang/String"), accessFlags := 10, slot := 8, constantValue := 0 }, { name := "cons", type := (.object "java/io/Console"), accessFlags := 74, slot := 9, constantValue := 0 }, { name := "initialErrStream", type := (.object "java/io/PrintStream"), accessFlags := 74, slot := 10, constantValue := 0 }, { name := "props", type := (.object "java/util/Properties"), accessFlags := 10, slot := 11, constantValue := 0 }, { name := "lineSeparator", type := (.object "java/lang/String"), accessFlags := 10, slot := 12, constantValue := 0 }, { name := "bootLayer", type := (.object "java/lang/ModuleLayer"), accessFlags := 8, slot := 13, constantValue := 0 }]
  methods := #[k17m0, k17m1]
  instanceTypes := #[]
  staticTypes := #[(.object "java/io/InputStream"), (.object "java/io/PrintStream"), (.object "java/io/PrintStream"), (.object "java/io/InputStream"), .int, .int, .int, (.object "java/lang/SecurityManager"), (.object "java/lang/String"), (.object "java/io/Console"), (.object "java/io/PrintStream"), (.object "java/util/Properties"), (.object "java/lang/String"), (.object "java/lang/ModuleLayer")]
  resolved := Array.replicate 834 none
  statics := none }

def pool18 : Array CpInfo := pool [(2, .class_ 4), (1, u "java/lang/Object"), (0, u "<init>"), (0, u "()V"), (6, .methodref 14 15), (0, .class_ 16), (0, .nameAndType 17 18), (0, u "java/util/Arrays"), (0, u "rangeCheck"), (0, u "(III)V"), (55, .class_ 76), (1, u "java/util/Arrays$NaturalOrder"), (36, .class_ 115), (1, u "java/util/Arrays$LegacyMergeSort"), (1, u "Z"), (257, .class_ 376), (0, u "java/util/Arrays$ArrayList"), (68, u "$assertionsDisabled"), (269, u "MIN_ARRAY_SORT_GRAN"), (0, u "I"), (2, u "INSERTIONSORT_THRESHOLD"), (120, u "fill"), (18, u "([Ljava/lang/Object;IILjava/lang/Object;)V"), (115, .class_ 976), (0, u "java/util/Arrays$ArrayItr")] 52

def k18m0 : Method := { name := "<init>", desc := "()V", sig := { parameters := [], returnType := none }, accessFlags := 2, code := none }
def k18c1 : Code := { maxStack := 4, maxLocals := 3, code := jdk_65_method_30_code, exceptionTable := #[], attributes := #[] }
def k18m1 : Method := { name := "rangeCheck", desc := "(III)V", sig := { parameters := [.int, .int, .int], returnType := none }, accessFlags := 8, code := some k18c1 }
def k18c2 : Code := { maxStack := 3, maxLocals := 5, code := jdk_65_method_118_code, exceptionTable := #[], attributes := #[] }
def k18m2 : Method := { name := "fill", desc := "([Ljava/lang/Object;IILjava/lang/Object;)V", sig := { parameters := [(.array (.object "java/lang/Object")), .int, .int, (.object "java/lang/Object")], returnType := none }, accessFlags := 9, code := some k18c2 }
/-- java/util/Arrays -/
def k18 : Class := { plain "java/util/Arrays" (some 0) with
  accessFlags := 49
  interfaces := #[]
  cf := some (fileOf pool18 14 #[.nestMembers #[975, 375, 113, 74]] #[{ accessFlags := 2, nameIndex := 5, descriptorIndex := 6, attributes := #[] }, { accessFlags := 8, nameIndex := 17, descriptorIndex := 18, attributes := #[] }, { accessFlags := 9, nameIndex := 840, descriptorIndex := 859, attributes := #[] }] 49 2 #[] #[{ accessFlags := 26, nameIndex := 715, descriptorIndex := 716, attributes := #[] }, { accessFlags := 26, nameIndex := 719, descriptorIndex := 716, attributes := #[] }, { accessFlags := 4120, nameIndex := 445, descriptorIndex := 117, attributes := #[] }])
  fields := #[{ name := "MIN_ARRAY_SORT_GRAN", type := .int, accessFlags := 26, slot := 0, constantValue := 0 }, { name := "INSERTIONSORT_THRESHOLD", type := .int, accessFlags := 26, slot := 1, constantValue := 0 }, { name := "$assertionsDisabled", type := .boolean, accessFlags := 4120, slot := 2, constantValue := 0 }]
  methods := #[k18m0, k18m1, k18m2]
  instanceTypes := #[]
  staticTypes := #[.int, .int, .boolean]
  resolved := Array.replicate 1029 none
  statics := none }

/-- the primitive byte -/
def k19 : Class := { plain "byte" none with kind := .primitive 'B', accessFlags := 0x411 }
/-- [B -/
def k20 : Class := { plain "[B" (some 0) with kind := .array 19 .byte, interfaces := #[9, 10], accessFlags := 1041 }

/-- the primitive int -/
def k21 : Class := { plain "int" none with kind := .primitive 'I', accessFlags := 0x411 }
/-- [I -/
def k22 : Class := { plain "[I" (some 0) with kind := .array 21 .int, interfaces := #[9, 10], accessFlags := 1041 }

/-- the primitive long -/
def k23 : Class := { plain "long" none with kind := .primitive 'J', accessFlags := 0x411 }
/-- [J -/
def k24 : Class := { plain "[J" (some 0) with kind := .array 23 .long, interfaces := #[9, 10], accessFlags := 1041 }

/-- [Lcom/example/hedgewalk/hedgewalk/eval/Verdict$Listener; -/
def k25 : Class := { plain "[Lcom/example/hedgewalk/hedgewalk/eval/Verdict$Listener;" (some 0) with kind := .array 13 (.object "com/example/hedgewalk/hedgewalk/eval/Verdict$Listener"), interfaces := #[9, 10], accessFlags := 1041 }

/-- [Ljava/lang/Object; -/
def k26 : Class := { plain "[Ljava/lang/Object;" (some 0) with kind := .array 0 (.object "java/lang/Object"), interfaces := #[9, 10], accessFlags := 1041 }

def heap : Heap := #[{ cls := 12, slots := #[.ref 1, .ref 2, .null, .null], vm := .statics 12 },
  { cls := 0, slots := #[], vm := .none },
  { cls := 0, slots := #[], vm := .none }]
def classes : Array Class := #[k0, k1, k2, k3, k4, k5, k6, k7, k8, k9, k10, k11, k12, k13, k14, k15, k16, k17, k18, k19, k20, k21, k22, k23, k24, k25, k26]
def interned : List (Array UInt16 × Addr) := []
def slotsUsed : Nat := 4
def theMethod : MethodId := ⟨1, 4⟩
def args0 : Array Value := #[.int 1, .long 2, .long 3, .long 4, .int 5, .int 6]
def aboutOver (below : List Frame) : State where
  vm := { classes := classes, interned := interned.toArray }
  heap := heap
  slotsUsed := slotsUsed
  threads := #[{ frames := .invoking theMethod args0 :: below }]
def below0 : List Frame := [.native { method := ⟨0, 0⟩, args := #[] }]
def about1 : State := aboutOver below0
def p0 : Program := .bare "" "" ""
def e0 : Env := launch0.env 0 0 0
theorem w_frames : about1.frames = Frame.invoking theMethod args0 :: below0 := rfl
set_option maxRecDepth 65536 in
theorem w_args : argsFit about1.vm theMethod args0 = true := by decide +kernel
set_option maxRecDepth 65536 in
theorem w_heap : heapFits about1 = true := by decide +kernel
set_option maxRecDepth 65536 in
theorem w_runnable : about1.curStatus? = some .runnable := by decide +kernel
set_option maxRecDepth 65536 in
theorem w_alone : about1.alone = true := by decide +kernel
set_option maxRecDepth 65536 in
theorem w_named : about1.methodNamed? x = some theMethod := by decide +kernel
set_option maxRecDepth 65536 in
theorem w_hears : about1.hears theMethod below0 = true := by decide +kernel
set_option maxRecDepth 65536 in
theorem w_ripe : about1.ripe theMethod args0 below0 = true := by decide +kernel
theorem w_running : about1.status = .running := rfl
set_option maxRecDepth 65536 in
theorem w_room : about1.hasRoom e0.platform room_1 = true :=
  launch0.hasRoom_least _ room_1 (by decide +kernel) (by decide +kernel) (by decide +kernel) (by decide +kernel) (by decide +kernel) (by decide +kernel)
theorem allAtoms_all (ts : List Jvm.Cond) (a : Array Jvm.Value) (st : Jvm.State) : (allAtoms ts).before a st = ts.all (fun c => c.before a st) := by
  induction ts with
  | nil => rfl
  | cons c t ih =>
    show (Jvm.Cond.and c (allAtoms t)).before a st = _
    rw [Jvm.Cond.before_and, ih, List.all_cons]
def words1 : List Jvm.Cond := Jvm.Cond.code x code maxLocals ret :: tables_1
/-- a 'code' word, met by the world's own term for the bytes: nothing is compared byte by byte -/
theorem code_word {y : MethodName} {bytes : ByteArray} {mx : Nat} {rt : Option FieldType} {a : Array Value} {s : State} {m : MethodId} {meth : Method} {c : Code} (h1 : s.methodNamed? y = some m) (h2 : s.vm.method? m = some meth) (h3 : meth.code = some c) (h4 : c.code = bytes)
    (h5 : (c.maxLocals == mx && c.exceptionTable.isEmpty && decide (c.maxStack ≤ mostOperands) && decide (meth.sig.returnType = rt) && !meth.locks && decide (parseMethodDescriptor y.desc = some meth.sig)) = true) : (Jvm.Cond.code y bytes mx rt).before a s = true := by
  simp only [Bool.and_eq_true, beq_iff_eq, Bool.not_eq_true', decide_eq_true_eq] at h5
  obtain ⟨⟨⟨⟨⟨g1, g2⟩, g3⟩, g4⟩, g5⟩, g6⟩ := h5
  simp [Cond.before, Cond.holds, Cond.value, h1, h2, h3, h4, g1, g2, g3, g4, g5, g6]
def isCode : Jvm.Cond → Bool
  | .code _ _ _ _ => true
  | _ => false
theorem all_split {L : List Jvm.Cond} {P : Jvm.Cond → Bool} (h1 : L.all (fun c => isCode c || P c) = true) (h2 : ∀ c ∈ L.filter isCode, P c = true) : L.all P = true := by
  refine List.all_eq_true.mpr fun c hc => ?_
  have h := List.all_eq_true.mp h1 c hc
  rcases Bool.eq_false_or_eq_true (isCode c) with hi | hi
  · exact h2 c (List.mem_filter.mpr ⟨hc, hi⟩)
  · simpa [hi] using h
set_option maxRecDepth 65536 in
theorem w_c0 : (Jvm.Cond.code x code maxLocals ret).before args0 about1 = true := code_word (m := ⟨1, 4⟩) (meth := k1m4) (c := k1c4) (by decide +kernel) rfl rfl rfl (by decide +kernel)
set_option maxRecDepth 65536 in
theorem w_c1 : (Jvm.Cond.code ({ cls := "com/example/hedgewalk/hedgewalk/eval/Agenda", name := "<init>", desc := "()V" } : Jvm.MethodName) prog_29_method_1_code (1 : Nat) (Option.none : Option Jvm.ClassFile.FieldType)).before args0 about1 = true := code_word (m := ⟨2, 0⟩) (meth := k2m0) (c := k2c0) (by decide +kernel) rfl rfl rfl (by decide +kernel)
set_option maxRecDepth 65536 in
theorem w_c2 : (Jvm.Cond.code ({ cls := "java/lang/Object", name := "<init>", desc := "()V" } : Jvm.MethodName) object_method_1_code (1 : Nat) (Option.none : Option Jvm.ClassFile.FieldType)).before args0 about1 = true := code_word (m := ⟨0, 0⟩) (meth := k0m0) (c := k0c0) (by decide +kernel) rfl rfl rfl (by decide +kernel)
set_option maxRecDepth 65536 in
theorem w_c3 : (Jvm.Cond.code ({ cls := "java/util/ArrayDeque", name := "<init>", desc := "()V" } : Jvm.MethodName) jdk_21_method_3_code (1 : Nat) (Option.none : Option Jvm.ClassFile.FieldType)).before args0 about1 = true := code_word (m := ⟨11, 0⟩) (meth := k11m0) (c := k11c0) (by decide +kernel) rfl rfl rfl (by decide +kernel)
set_option maxRecDepth 65536 in
theorem w_c4 : (Jvm.Cond.code ({ cls := "java/util/AbstractCollection", name := "<init>", desc := "()V" } : Jvm.MethodName) jdk_22_method_1_code (1 : Nat) (Option.none : Option Jvm.ClassFile.FieldType)).before args0 about1 = true := code_word (m := ⟨5, 0⟩) (meth := k5m0) (c := k5c0) (by decide +kernel) rfl rfl rfl (by decide +kernel)
set_option maxRecDepth 65536 in
theorem w_c5 : (Jvm.Cond.code ({ cls := "com/example/hedgewalk/hedgewalk/eval/Verdict$Told", name := "<init>", desc := "()V" } : Jvm.MethodName) prog_84_method_1_code (1 : Nat) (Option.none : Option Jvm.ClassFile.FieldType)).before args0 about1 = true := code_word (m := ⟨14, 0⟩) (meth := k14m0) (c := k14c0) (by decide +kernel) rfl rfl rfl (by decide +kernel)
set_option maxRecDepth 65536 in
theorem w_c6 : (Jvm.Cond.code ({ cls := "com/example/hedgewalk/hedgewalk/eval/Verdict", name := "<init>", desc := "()V" } : Jvm.MethodName) prog_78_method_1_code (1 : Nat) (Option.none : Option Jvm.ClassFile.FieldType)).before args0 about1 = true := code_word (m := ⟨12, 0⟩) (meth := k12m0) (c := k12c0) (by decide +kernel) rfl rfl rfl (by decide +kernel)
set_option maxRecDepth 65536 in
theorem w_c7 : (Jvm.Cond.code ({ cls := "com/example/hedgewalk/hedgewalk/eval/Verdict", name := "<init>", desc := "(Ljava/lang/Object;)V" } : Jvm.MethodName) prog_78_method_2_code (2 : Nat) (Option.none : Option Jvm.ClassFile.FieldType)).before args0 about1 = true := code_word (m := ⟨12, 1⟩) (meth := k12m1) (c := k12c1) (by decide +kernel) rfl rfl rfl (by decide +kernel)
set_option maxRecDepth 65536 in
theorem w_c8 : (Jvm.Cond.code ({ cls := "com/example/hedgewalk/hedgewalk/eval/GoalQueue", name := "<init>", desc := "()V" } : Jvm.MethodName) prog_34_method_1_code (1 : Nat) (Option.none : Option Jvm.ClassFile.FieldType)).before args0 about1 = true := code_word (m := ⟨15, 0⟩) (meth := k15m0) (c := k15c0) (by decide +kernel) rfl rfl rfl (by decide +kernel)
set_option maxRecDepth 65536 in
theorem w_c9 : (Jvm.Cond.code ({ cls := "com/example/hedgewalk/hedgewalk/eval/GoalQueue", name := "hasOpen", desc := "()Z" } : Jvm.MethodName) prog_34_method_2_code (1 : Nat) (Option.some Jvm.ClassFile.FieldType.boolean)).before args0 about1 = true := code_word (m := ⟨15, 1⟩) (meth := k15m1) (c := k15c1) (by decide +kernel) rfl rfl rfl (by decide +kernel)
set_option maxRecDepth 65536 in
theorem w_c10 : (Jvm.Cond.code ({ cls := "com/example/hedgewalk/hedgewalk/eval/GoalQueueHasOpenPinLaw", name := "limit", desc := "(IJ)J" } : Jvm.MethodName) method_2_code (3 : Nat) (Option.some Jvm.ClassFile.FieldType.long)).before args0 about1 = true := code_word (m := ⟨1, 1⟩) (meth := k1m1) (c := k1c1) (by decide +kernel) rfl rfl rfl (by decide +kernel)
set_option maxRecDepth 65536 in
theorem w_c11 : (Jvm.Cond.code ({ cls := "com/example/hedgewalk/hedgewalk/eval/GoalQueueHasOpenPinLaw", name := "step", desc := "(Lcom/example/hedgewalk/hedgewalk/eval/GoalQueue;Lcom/example/hedgewalk/hedgewalk/eval/Agenda;IJI)V" } : Jvm.MethodName) method_3_code (6 : Nat) (Option.none : Option Jvm.ClassFile.FieldType)).before args0 about1 = true := code_word (m := ⟨1, 2⟩) (meth := k1m2) (c := k1c2) (by decide +kernel) rfl rfl rfl (by decide +kernel)
set_option maxRecDepth 65536 in
theorem w_c12 : (Jvm.Cond.code ({ cls := "com/example/hedgewalk/hedgewalk/eval/GoalQueue", name := "succeedBelow", desc := "(JLcom/example/hedgewalk/hedgewalk/eval/Agenda;)V" } : Jvm.MethodName) prog_34_method_4_code (4 : Nat) (Option.none : Option Jvm.ClassFile.FieldType)).before args0 about1 = true := code_word (m := ⟨15, 3⟩) (meth := k15m3) (c := k15c3) (by decide +kernel) rfl rfl rfl (by decide +kernel)
set_option maxRecDepth 65536 in
theorem w_c13 : (Jvm.Cond.code ({ cls := "com/example/hedgewalk/hedgewalk/eval/GoalQueueHasOpenPinLaw", name := "anyOpen", desc := "(ILcom/example/hedgewalk/hedgewalk/eval/Verdict$Told;Lcom/example/hedgewalk/hedgewalk/eval/Verdict$Told;Lcom/example/hedgewalk/hedgewalk/eval/Verdict$Told;)Z" } : Jvm.MethodName) method_4_code (4 : Nat) (Option.some Jvm.ClassFile.FieldType.boolean)).before args0 about1 = true := code_word (m := ⟨1, 3⟩) (meth := k1m3) (c := k1c3) (by decide +kernel) rfl rfl rfl (by decide +kernel)
set_option maxRecDepth 65536 in
theorem w_c14 : (Jvm.Cond.code ({ cls := "com/example/hedgewalk/hedgewalk/eval/GoalQueue", name := "failHeldAt", desc := "(ILcom/example/hedgewalk/hedgewalk/eval/Agenda;)V" } : Jvm.MethodName) prog_34_method_5_code (3 : Nat) (Option.none : Option Jvm.ClassFile.FieldType)).before args0 about1 = true := code_word (m := ⟨15, 4⟩) (meth := k15m4) (c := k15c4) (by decide +kernel) rfl rfl rfl (by decide +kernel)
set_option maxRecDepth 65536 in
theorem w_c15 : (Jvm.Cond.code ({ cls := "java/lang/Math", name := "min", desc := "(II)I" } : Jvm.MethodName) jdk_29_method_69_code (2 : Nat) (Option.some Jvm.ClassFile.FieldType.int)).before args0 about1 = true := code_word (m := ⟨16, 1⟩) (meth := k16m1) (c := k16c1) (by decide +kernel) rfl rfl rfl (by decide +kernel)
set_option maxRecDepth 65536 in
theorem w_c16 : (Jvm.Cond.code ({ cls := "com/example/hedgewalk/hedgewalk/eval/GoalQueue", name := "add", desc := "(JILcom/example/hedgewalk/hedgewalk/eval/Verdict$Listener;)V" } : Jvm.MethodName) prog_34_method_3_code (5 : Nat) (Option.none : Option Jvm.ClassFile.FieldType)).before args0 about1 = true := code_word (m := ⟨15, 2⟩) (meth := k15m2) (c := k15c2) (by decide +kernel) rfl rfl rfl (by decide +kernel)
set_option maxRecDepth 65536 in
theorem w_c17 : (Jvm.Cond.code ({ cls := "com/example/hedgewalk/hedgewalk/eval/Verdict$Told", name := "settled", desc := "(ZLcom/example/hedgewalk/hedgewalk/eval/Agenda;)V" } : Jvm.MethodName) prog_84_method_2_code (3 : Nat) (Option.none : Option Jvm.ClassFile.FieldType)).before args0 about1 = true := code_word (m := ⟨14, 1⟩) (meth := k14m1) (c := k14c1) (by decide +kernel) rfl rfl rfl (by decide +kernel)
set_option maxRecDepth 65536 in
theorem w_c18 : (Jvm.Cond.code ({ cls := "com/example/hedgewalk/hedgewalk/eval/Agenda", name := "settle", desc := "(Lcom/example/hedgewalk/hedgewalk/eval/Verdict;Z)V" } : Jvm.MethodName) prog_29_method_2_code (4 : Nat) (Option.none : Option Jvm.ClassFile.FieldType)).before args0 about1 = true := code_word (m := ⟨2, 1⟩) (meth := k2m1) (c := k2c1) (by decide +kernel) rfl rfl rfl (by decide +kernel)
set_option maxRecDepth 65536 in
theorem w_c19 : (Jvm.Cond.code ({ cls := "com/example/hedgewalk/hedgewalk/eval/Verdict", name := "settle", desc := "(Z)Ljava/lang/Object;" } : Jvm.MethodName) prog_78_method_12_code (3 : Nat) (Option.some (Jvm.ClassFile.FieldType.object "java/lang/Object"))).before args0 about1 = true := code_word (m := ⟨12, 3⟩) (meth := k12m3) (c := k12c3) (by decide +kernel) rfl rfl rfl (by decide +kernel)
set_option maxRecDepth 65536 in
theorem w_c20 : (Jvm.Cond.code ({ cls := "com/example/hedgewalk/hedgewalk/eval/Verdict", name := "isOpen", desc := "()Z" } : Jvm.MethodName) prog_78_method_8_code (1 : Nat) (Option.some Jvm.ClassFile.FieldType.boolean)).before args0 about1 = true := code_word (m := ⟨12, 2⟩) (meth := k12m2) (c := k12c2) (by decide +kernel) rfl rfl rfl (by decide +kernel)
set_option maxRecDepth 65536 in
theorem w_c21 : (Jvm.Cond.code ({ cls := "com/example/hedgewalk/hedgewalk/eval/GoalQueue", name := "dropSettled", desc := "()V" } : Jvm.MethodName) prog_34_method_6_code (2 : Nat) (Option.none : Option Jvm.ClassFile.FieldType)).before args0 about1 = true := code_word (m := ⟨15, 5⟩) (meth := k15m5) (c := k15c5) (by decide +kernel) rfl rfl rfl (by decide +kernel)
set_option maxRecDepth 65536 in
theorem w_c22 : (Jvm.Cond.code ({ cls := "java/util/Arrays", name := "fill", desc := "([Ljava/lang/Object;IILjava/lang/Object;)V" } : Jvm.MethodName) jdk_65_method_118_code (5 : Nat) (Option.none : Option Jvm.ClassFile.FieldType)).before args0 about1 = true := code_word (m := ⟨18, 2⟩) (meth := k18m2) (c := k18c2) (by decide +kernel) rfl rfl rfl (by decide +kernel)
set_option maxRecDepth 65536 in
theorem w_c23 : (Jvm.Cond.code ({ cls := "java/util/Arrays", name := "rangeCheck", desc := "(III)V" } : Jvm.MethodName) jdk_65_method_30_code (3 : Nat) (Option.none : Option Jvm.ClassFile.FieldType)).before args0 about1 = true := code_word (m := ⟨18, 1⟩) (meth := k18m1) (c := k18c1) (by decide +kernel) rfl rfl rfl (by decide +kernel)
def codes1 : List Jvm.Cond := [Jvm.Cond.code x code maxLocals ret, Jvm.Cond.code ({ cls := "com/example/hedgewalk/hedgewalk/eval/Agenda", name := "<init>", desc := "()V" } : Jvm.MethodName) prog_29_method_1_code (1 : Nat) (Option.none : Option Jvm.ClassFile.FieldType), Jvm.Cond.code ({ cls := "java/lang/Object", name := "<init>", desc := "()V" } : Jvm.MethodName) object_method_1_code (1 : Nat) (Option.none : Option Jvm.ClassFile.FieldType), Jvm.Cond.code ({ cls := "java/util/ArrayDeque", name := "<init>", desc := "()V" } : Jvm.MethodName) jdk_21_method_3_code (1 : Nat) (Option.none : Option Jvm.ClassFile.FieldType), Jvm.Cond.code ({ cls := "java/util/AbstractCollection", name := "<init>", desc := "()V" } : Jvm.MethodName) jdk_22_method_1_code (1 : Nat) (Option.none : Option Jvm.ClassFile.FieldType), Jvm.Cond.code ({ cls := "com/example/hedgewalk/hedgewalk/eval/Verdict$Told", name := "<init>", desc := "()V" } : Jvm.MethodName) prog_84_method_1_code (1 : Nat) (Option.none : Option Jvm.ClassFile.FieldType), Jvm.Cond.code ({ cls := "com/example/hedgewalk/hedgewalk/eval/Verdict", name := "<init>", desc := "()V" } : Jvm.MethodName) prog_78_method_1_code (1 : Nat) (Option.none : Option Jvm.ClassFile.FieldType), Jvm.Cond.code ({ cls := "com/example/hedgewalk/hedgewalk/eval/Verdict", name := "<init>", desc := "(Ljava/lang/Object;)V" } : Jvm.MethodName) prog_78_method_2_code (2 : Nat) (Option.none : Option Jvm.ClassFile.FieldType), Jvm.Cond.code ({ cls := "com/example/hedgewalk/hedgewalk/eval/GoalQueue", name := "<init>", desc := "()V" } : Jvm.MethodName) prog_34_method_1_code (1 : Nat) (Option.none : Option Jvm.ClassFile.FieldType), Jvm.Cond.code ({ cls := "com/example/hedgewalk/hedgewalk/eval/GoalQueue", name := "hasOpen", desc := "()Z" } : Jvm.MethodName) prog_34_method_2_code (1 : Nat) (Option.some Jvm.ClassFile.FieldType.boolean), Jvm.Cond.code ({ cls := "com/example/hedgewalk/hedgewalk/eval/GoalQueueHasOpenPinLaw", name := "limit", desc := "(IJ)J" } : Jvm.MethodName) method_2_code (3 : Nat) (Option.some Jvm.ClassFile.FieldType.long), Jvm.Cond.code ({ cls := "com/example/hedgewalk/hedgewalk/eval/GoalQueueHasOpenPinLaw", name := "step", desc := "(Lcom/example/hedgewalk/hedgewalk/eval/GoalQueue;Lcom/example/hedgewalk/hedgewalk/eval/Agenda;IJI)V" } : Jvm.MethodName) method_3_code (6 : Nat) (Option.none : Option Jvm.ClassFile.FieldType), Jvm.Cond.code ({ cls := "com/example/hedgewalk/hedgewalk/eval/GoalQueue", name := "succeedBelow", desc := "(JLcom/example/hedgewalk/hedgewalk/eval/Agenda;)V" } : Jvm.MethodName) prog_34_method_4_code (4 : Nat) (Option.none : Option Jvm.ClassFile.FieldType), Jvm.Cond.code ({ cls := "com/example/hedgewalk/hedgewalk/eval/GoalQueueHasOpenPinLaw", name := "anyOpen", desc := "(ILcom/example/hedgewalk/hedgewalk/eval/Verdict$Told;Lcom/example/hedgewalk/hedgewalk/eval/Verdict$Told;Lcom/example/hedgewalk/hedgewalk/eval/Verdict$Told;)Z" } : Jvm.MethodName) method_4_code (4 : Nat) (Option.some Jvm.ClassFile.FieldType.boolean), Jvm.Cond.code ({ cls := "com/example/hedgewalk/hedgewalk/eval/GoalQueue", name := "failHeldAt", desc := "(ILcom/example/hedgewalk/hedgewalk/eval/Agenda;)V" } : Jvm.MethodName) prog_34_method_5_code (3 : Nat) (Option.none : Option Jvm.ClassFile.FieldType), Jvm.Cond.code ({ cls := "java/lang/Math", name := "min", desc := "(II)I" } : Jvm.MethodName) jdk_29_method_69_code (2 : Nat) (Option.some Jvm.ClassFile.FieldType.int), Jvm.Cond.code ({ cls := "com/example/hedgewalk/hedgewalk/eval/GoalQueue", name := "add", desc := "(JILcom/example/hedgewalk/hedgewalk/eval/Verdict$Listener;)V" } : Jvm.MethodName) prog_34_method_3_code (5 : Nat) (Option.none : Option Jvm.ClassFile.FieldType), Jvm.Cond.code ({ cls := "com/example/hedgewalk/hedgewalk/eval/Verdict$Told", name := "settled", desc := "(ZLcom/example/hedgewalk/hedgewalk/eval/Agenda;)V" } : Jvm.MethodName) prog_84_method_2_code (3 : Nat) (Option.none : Option Jvm.ClassFile.FieldType), Jvm.Cond.code ({ cls := "com/example/hedgewalk/hedgewalk/eval/Agenda", name := "settle", desc := "(Lcom/example/hedgewalk/hedgewalk/eval/Verdict;Z)V" } : Jvm.MethodName) prog_29_method_2_code (4 : Nat) (Option.none : Option Jvm.ClassFile.FieldType), Jvm.Cond.code ({ cls := "com/example/hedgewalk/hedgewalk/eval/Verdict", name := "settle", desc := "(Z)Ljava/lang/Object;" } : Jvm.MethodName) prog_78_method_12_code (3 : Nat) (Option.some (Jvm.ClassFile.FieldType.object "java/lang/Object")), Jvm.Cond.code ({ cls := "com/example/hedgewalk/hedgewalk/eval/Verdict", name := "isOpen", desc := "()Z" } : Jvm.MethodName) prog_78_method_8_code (1 : Nat) (Option.some Jvm.ClassFile.FieldType.boolean), Jvm.Cond.code ({ cls := "com/example/hedgewalk/hedgewalk/eval/GoalQueue", name := "dropSettled", desc := "()V" } : Jvm.MethodName) prog_34_method_6_code (2 : Nat) (Option.none : Option Jvm.ClassFile.FieldType), Jvm.Cond.code ({ cls := "java/util/Arrays", name := "fill", desc := "([Ljava/lang/Object;IILjava/lang/Object;)V" } : Jvm.MethodName) jdk_65_method_118_code (5 : Nat) (Option.none : Option Jvm.ClassFile.FieldType), Jvm.Cond.code ({ cls := "java/util/Arrays", name := "rangeCheck", desc := "(III)V" } : Jvm.MethodName) jdk_65_method_30_code (3 : Nat) (Option.none : Option Jvm.ClassFile.FieldType)]
set_option maxRecDepth 65536 in
theorem codes_eq : words1.filter isCode = codes1 := rfl
theorem w_codes : ∀ c ∈ words1.filter isCode, c.before args0 about1 = true := by
  rw [codes_eq]
  intro c hc
  simp only [codes1, List.mem_cons, List.not_mem_nil, or_false] at hc
  rcases hc with rfl | rfl | rfl | rfl | rfl | rfl | rfl | rfl | rfl | rfl | rfl | rfl | rfl | rfl | rfl | rfl | rfl | rfl | rfl | rfl | rfl | rfl | rfl | rfl
  · exact w_c0
  · exact w_c1
  · exact w_c2
  · exact w_c3
  · exact w_c4
  · exact w_c5
  · exact w_c6
  · exact w_c7
  · exact w_c8
  · exact w_c9
  · exact w_c10
  · exact w_c11
  · exact w_c12
  · exact w_c13
  · exact w_c14
  · exact w_c15
  · exact w_c16
  · exact w_c17
  · exact w_c18
  · exact w_c19
  · exact w_c20
  · exact w_c21
  · exact w_c22
  · exact w_c23
set_option maxRecDepth 65536 in
theorem w_t1 : (words1.take 24).all (fun c => isCode c || c.before args0 about1) = true := by decide +kernel
set_option maxRecDepth 65536 in
theorem w_t2 : ((words1.drop 24).take 24).all (fun c => isCode c || c.before args0 about1) = true := by decide +kernel
set_option maxRecDepth 65536 in
theorem w_t3 : (((words1.drop 24).drop 24).take 24).all (fun c => isCode c || c.before args0 about1) = true := by decide +kernel
set_option maxRecDepth 65536 in
theorem w_t4 : ((((words1.drop 24).drop 24).drop 24).take 24).all (fun c => isCode c || c.before args0 about1) = true := by decide +kernel
set_option maxRecDepth 65536 in
theorem w_t5 : (((((words1.drop 24).drop 24).drop 24).drop 24).take 24).all (fun c => isCode c || c.before args0 about1) = true := by decide +kernel
set_option maxRecDepth 65536 in
theorem w_t6 : ((((((words1.drop 24).drop 24).drop 24).drop 24).drop 24).take 24).all (fun c => isCode c || c.before args0 about1) = true := by decide +kernel
set_option maxRecDepth 65536 in
theorem w_t7 : ((((((words1.drop 24).drop 24).drop 24).drop 24).drop 24).drop 24).all (fun c => isCode c || c.before args0 about1) = true := by decide +kernel
theorem w_tables : (allAtoms (Jvm.Cond.code x code maxLocals ret :: tables_1)).before args0 about1 = true := by
  rw [allAtoms_all]
  show words1.all (fun c => c.before args0 about1) = true
  refine all_split ?_ w_codes
  rw [← List.take_append_drop 24 words1, List.all_append, w_t1, ← List.take_append_drop 24 (words1.drop 24), List.all_append, w_t2, ← List.take_append_drop 24 ((words1.drop 24).drop 24), List.all_append, w_t3, ← List.take_append_drop 24 (((words1.drop 24).drop 24).drop 24), List.all_append, w_t4, ← List.take_append_drop 24 ((((words1.drop 24).drop 24).drop 24).drop 24), List.all_append, w_t5, ← List.take_append_drop 24 (((((words1.drop 24).drop 24).drop 24).drop 24).drop 24), List.all_append, w_t6, w_t7]
  rfl
set_option maxRecDepth 65536 in
theorem w_case : (Jvm.Cond.and given_1 narrow_1).before args0 about1 = true := by decide +kernel
theorem w_applies : (headSpec (Jvm.Cond.code x code maxLocals ret :: tables_1) room_1).applies x e0.platform about1 = true :=
  (Spec.applies_iff w_frames).mpr ⟨w_running, w_runnable, w_alone, w_named, w_hears, w_ripe, w_room, w_tables⟩
theorem atStart : AtStart classFile x code maxLocals ret World_1 tables_1 room_1 Calls_1 rest_1 Pre_1 launch0 p0 e0 about1 theMethod args0 below0 :=
  ⟨lists_1, trivial, launch0.admits_env _ _ _, launch0.least_env, fairChoices_fair.cas, fairChoices_fair.clock, w_frames, w_args, w_heap, w_applies, trivial, trivial, w_case⟩
end start1
theorem witness_1 : WitnessClaimed_1 := ⟨start1.p0, start1.e0, start1.about1, start1.theMethod, start1.args0, start1.below0, start1.atStart⟩
end Jvm.Pilot.@@N@@
