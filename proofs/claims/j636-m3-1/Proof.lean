import JvmDerived
import JvmDerived.Pilot.@@N@@Statement
import JvmDerived.Pilot.@@N@@Code
set_option linter.unusedVariables false
set_option linter.unusedSimpArgs false
@@BLOCK:NumsL.lean.txt@@
namespace Jvm.Pilot.@@N@@
open Jvm Jvm.ClassFile Sem Op Lib Jvm.Free Jvm.Stand Jvm.LawKit Jvm.RoadKit Bundle Jvm.Pilot.@@N@@.Jvm.D
theorem own_w {Z : State} {a0 : Array Value} (hw : ∀ d ∈ tables_1, d.before a0 Z = true) (i : Nat) {d : Jvm.Cond} (h : tables_1[i]? = some d) : d.before a0 Z = true := hw _ (List.mem_of_getElem? h)
section OwnKit
variable {p : Program} {l : Launch} {e : Env} {R : Room} {s : State} {m : MethodId} {args : Array Value} {below : List Frame} {meth : Method} {c : Code} {T T' : State} {locs : List Loc} {cells slots : Nat} {Q : Option Value → Heap → List Loc → Prop} {k n : Nat} {Fin : Outcome → State → Prop} {Z : State} {a0 : Array Value} {h : Heap} {pc : Nat} {Ls : Array Slot} {rest : List Value}
/-- from this frame on the body ends as Fin says -/
def own_Go (p : Program) (e : Env) (below : List Frame) (Fin : Outcome → State → Prop) (T : State) (f : JFrame) : Prop :=
  ∃ s₂ o, Steps p.tables e below (T.setTop f) s₂ ∧ s₂.status = .running ∧ Ended s₂ below o ∧ Fin o s₂
/-- it returned, as Q says; the frame as ever -/
def own_Fin (s : State) (Q : Option Value → Heap → List Loc → Prop) (k n : Nat) (o : Outcome) (t : State) : Prop := ∃ v L, o = .returned v ∧ Q v t.heap L ∧ FrameEnd s o t L k n
/-- it returned, as Q says; String constants may have been resolved -/
def own_FinW (s : State) (Q : Option Value → Heap → List Loc → Prop) (k n : Nat) (o : Outcome) (t : State) : Prop := ∃ v L, o = .returned v ∧ Q v t.heap L ∧ ReturnedEndW s o t L k n
theorem own_by {f f' : JFrame} (st : ∀ t, Steps p.tables e below (T'.setTop f') t → Steps p.tables e below (T.setTop f) t) (g : own_Go p e below Fin T' f') : own_Go p e below Fin T f := by
  obtain ⟨s₂, o, h, r⟩ := g
  exact ⟨s₂, o, st _ h, r⟩
theorem own_start {f f' : JFrame} (q : f = f') (g : own_Go p e below (own_Fin s Q k n) T f') : ∃ s₂ o, Steps p.tables e below (T.setTop f) s₂ ∧ s₂.status = .running ∧ Ended s₂ below o ∧ ∃ v L, o = .returned v ∧ Q v s₂.heap L ∧ FrameEnd s o s₂ L k n := by
  subst q; exact g
theorem own_startW {f f' : JFrame} (q : f = f') (g : own_Go p e below (own_FinW s Q k n) T f') : ∃ s₂ o, Steps p.tables e below (T.setTop f) s₂ ∧ s₂.status = .running ∧ Ended s₂ below o ∧ ∃ v L, o = .returned v ∧ Q v s₂.heap L ∧ ReturnedEndW s o s₂ L k n := by
  subst q; exact g
theorem own_ret (X : Stand p l e R s m args below meth c T locs cells slots) (hx : p.tables.exec = Jvm.exec) (hlk : meth.locks = false) {w : Value} {t : FieldType} {i : Instr} (hret : meth.sig.returnType = some t)
    (hi : (i = .ireturn ∧ (t = .int ∨ t = .boolean ∨ t = .byte ∨ t = .char ∨ t = .short) ∧ ∃ z, w = .int z) ∨ (i = .lreturn ∧ t = .long ∧ ∃ z, w = .long z) ∨ (i = .dreturn ∧ t = .double ∧ ∃ z, w = .double z) ∨ (i = .freturn ∧ t = .float ∧ ∃ z, w = .float z) ∨ (i = .areturn ∧ t.isReference = true ∧ w.isRef = true))
    (hn : narrow t w = w) (hd : decode c.code pc = .ok (i, 1)) (eT : T.heap = h) (hk : cells ≤ k) (hs : slots ≤ n) (q : Q (some w) h locs) : own_Go p e below (own_Fin s Q k n) T (mkF m pc Ls (w :: rest)) := by
  obtain ⟨fs, hr, hrun, hended, hW, hsame⟩ := X.leave (v := some w) (fun h => by rw [hret] at h; cases h) hlk
  refine ⟨_, _, retOut X hx hret hn hi hd hr, hrun, hended, _, _, rfl, ?_, ⟨_, rfl⟩, hW, hsame.mono hk hs⟩
  show Q _ T.heap _
  rw [eT]; exact q
theorem own_retI (X : Stand p l e R s m args below meth c T locs cells slots) (hx : p.tables.exec = Jvm.exec) (hlk : meth.locks = false) {z : Int32} (hret : meth.sig.returnType = some .int) (hd : decode c.code pc = .ok (.ireturn, 1)) (eT : T.heap = h) (hk : cells ≤ k) (hs : slots ≤ n) (q : Q (some (.int z)) h locs) : own_Go p e below (own_Fin s Q k n) T (mkF m pc Ls (.int z :: rest)) :=
  own_ret X hx hlk hret (Or.inl ⟨rfl, Or.inl rfl, z, rfl⟩) rfl hd eT hk hs q
theorem own_retZ (X : Stand p l e R s m args below meth c T locs cells slots) (hx : p.tables.exec = Jvm.exec) (hlk : meth.locks = false) {z : Int32} (hret : meth.sig.returnType = some .boolean) (hz : z = 0 ∨ z = 1) (hd : decode c.code pc = .ok (.ireturn, 1)) (eT : T.heap = h) (hk : cells ≤ k) (hs : slots ≤ n) (q : Q (some (.int z)) h locs) : own_Go p e below (own_Fin s Q k n) T (mkF m pc Ls (.int z :: rest)) :=
  own_ret X hx hlk hret (Or.inl ⟨rfl, Or.inr (Or.inl rfl), z, rfl⟩) (by rcases hz with rfl | rfl <;> rfl) hd eT hk hs q
theorem own_retJ (X : Stand p l e R s m args below meth c T locs cells slots) (hx : p.tables.exec = Jvm.exec) (hlk : meth.locks = false) {z : Int64} (hret : meth.sig.returnType = some .long) (hd : decode c.code pc = .ok (.lreturn, 1)) (eT : T.heap = h) (hk : cells ≤ k) (hs : slots ≤ n) (q : Q (some (.long z)) h locs) : own_Go p e below (own_Fin s Q k n) T (mkF m pc Ls (.long z :: rest)) :=
  own_ret X hx hlk hret (Or.inr (Or.inl ⟨rfl, rfl, z, rfl⟩)) rfl hd eT hk hs q
theorem own_retR (X : Stand p l e R s m args below meth c T locs cells slots) (hx : p.tables.exec = Jvm.exec) (hlk : meth.locks = false) {w : Value} {t : FieldType} (hret : meth.sig.returnType = some t) (ht : t.isReference = true) (hw : w.isRef = true) (hn : narrow t w = w) (hd : decode c.code pc = .ok (.areturn, 1)) (eT : T.heap = h) (hk : cells ≤ k) (hs : slots ≤ n) (q : Q (some w) h locs) : own_Go p e below (own_Fin s Q k n) T (mkF m pc Ls (w :: rest)) :=
  own_ret X hx hlk hret (Or.inr (Or.inr (Or.inr (Or.inr ⟨rfl, ht, hw⟩)))) hn hd eT hk hs q
theorem own_retV (X : Stand p l e R s m args below meth c T locs cells slots) (hx : p.tables.exec = Jvm.exec) (hlk : meth.locks = false) (hret : meth.sig.returnType = none) (hd : decode c.code pc = .ok (.return_, 1)) (eT : T.heap = h) (hk : cells ≤ k) (hs : slots ≤ n) (q : Q none h locs) : own_Go p e below (own_Fin s Q k n) T (mkF m pc Ls []) := by
  obtain ⟨fs, hr, hrun, hended, hW, hsame⟩ := X.leave (v := none) (fun _ => rfl) hlk
  refine ⟨_, _, X.returnOut hx hret hd hr, hrun, hended, _, _, rfl, ?_, ⟨_, rfl⟩, hW, hsame.mono hk hs⟩
  show Q _ T.heap _
  rw [eT]; exact q
/-- a conditional branch as a plain comparison -/
def own_cnd : ClassFile.Cond → Int32 → Int32 → Prop
  | .eq, x, y => x = y
  | .ne, x, y => ¬ x = y
  | .lt, x, y => x < y
  | .ge, x, y => ¬ x < y
  | .gt, x, y => y < x
  | .le, x, y => ¬ y < x
def own_neg : ClassFile.Cond → ClassFile.Cond
  | .eq => .ne
  | .ne => .eq
  | .lt => .ge
  | .ge => .lt
  | .gt => .le
  | .le => .gt
theorem own_holds (cd : ClassFile.Cond) (x y : Int32) : (if_icmp.holds cd x y = true ∧ own_cnd cd x y) ∨ (if_icmp.holds cd x y = false ∧ own_cnd (own_neg cd) x y) := by
  cases cd
  case eq => by_cases q : x = y; · exact Or.inl ⟨(teq q).1, q⟩
             · exact Or.inr ⟨(feq q).1, q⟩
  case ne => by_cases q : x = y; · exact Or.inr ⟨(teq q).2, q⟩
             · exact Or.inl ⟨(feq q).2, q⟩
  case lt => by_cases q : x < y; · exact Or.inl ⟨(tlt q).1, q⟩
             · exact Or.inr ⟨(flt q).1, q⟩
  case ge => by_cases q : x < y; · exact Or.inr ⟨(tlt q).2.1, q⟩
             · exact Or.inl ⟨(flt q).2.1, q⟩
  case gt => by_cases q : y < x; · exact Or.inl ⟨(tlt q).2.2.1, q⟩
             · exact Or.inr ⟨(flt q).2.2.1, q⟩
  case le => by_cases q : y < x; · exact Or.inr ⟨(tlt q).2.2.2, q⟩
             · exact Or.inl ⟨(flt q).2.2.2, q⟩
theorem own_icmp (X : Stand p l e R s m args below meth c T locs cells slots) (hx : p.tables.exec = Jvm.exec) {cd : ClassFile.Cond} {x y : Int32} {o : Int} (pc' : Nat) (hd : decode c.code pc = .ok (.if_icmp cd o, 3)) (ho : 0 ≤ (pc : Int) + o) (hp : ((pc : Int) + o).toNat = pc')
    (g1 : own_cnd cd x y → own_Go p e below Fin T (mkF m pc' Ls rest)) (g2 : own_cnd (own_neg cd) x y → own_Go p e below Fin T (mkF m (pc + 3) Ls rest)) : own_Go p e below Fin T (mkF m pc Ls (.int y :: .int x :: rest)) := by
  rcases own_holds cd x y with ⟨q, q'⟩ | ⟨q, q'⟩
  · exact own_by (fun t kk => XS.icmpYes X.here hx rfl (pc0 := pc) (pc' := pc') rfl hd rfl q ho hp kk) (g1 q')
  · exact own_by (fun t kk => XS.icmpNo X.here hx rfl hd rfl q kk) (g2 q')
theorem own_if (X : Stand p l e R s m args below meth c T locs cells slots) (hx : p.tables.exec = Jvm.exec) {cd : ClassFile.Cond} {x : Int32} {o : Int} (pc' : Nat) (hd : decode c.code pc = .ok (.ifCond cd o, 3)) (ho : 0 ≤ (pc : Int) + o) (hp : ((pc : Int) + o).toNat = pc')
    (g1 : own_cnd cd x 0 → own_Go p e below Fin T (mkF m pc' Ls rest)) (g2 : own_cnd (own_neg cd) x 0 → own_Go p e below Fin T (mkF m (pc + 3) Ls rest)) : own_Go p e below Fin T (mkF m pc Ls (.int x :: rest)) := by
  rcases own_holds cd x 0 with ⟨q, q'⟩ | ⟨q, q'⟩
  · exact own_by (fun t kk => XS.ifYes X.here hx rfl (pc0 := pc) (pc' := pc') rfl hd rfl ((if0 _ _).trans q) ho hp kk) (g1 q')
  · exact own_by (fun t kk => XS.ifNo X.here hx rfl hd rfl ((if0 _ _).trans q) kk) (g2 q')
/-- a static call by the callee's contract -/
theorem own_callS (X : Stand p l e R s m args below meth c T locs cells slots) (hx : p.tables.exec = Jvm.exec) (hZ : Z.Warmed39 s.vm) {own : String} {index : Nat} {y : MethodName} {bytes : ByteArray} {maxL W : Nat} {ret : Option FieldType} {rm : Room} {Qc : Option Value → Heap → List Loc → Prop}
    (hown : s.vm.findClass own = some m.cls) (w1 : (Cond.methodLink own index y).before a0 Z = true) (w2 : (Cond.static y).before a0 Z = true) (w3 : (Cond.initialized y.cls).before a0 Z = true) (w4 : (Cond.code y bytes maxL ret).before a0 Z = true)
    (hy : y.cls ≠ "java/lang/invoke/MethodHandle" ∧ y.cls ≠ "java/lang/invoke/VarHandle") (hml : Ls.size = c.maxLocals) {argsL : List Value} {ps : List FieldType} {rt : Option FieldType} (pd : parseMethodDescriptor y.desc = some ⟨ps, rt⟩) (hlen : argsL.length = ps.length)
    (hM : MetFree l y (head1 [Cond.code y bytes maxL ret] rm) (fun a U => a = argsL.toArray ∧ Z.Warmed39 U.vm ∧ U.heap = h) (fun _ _ _ _ _ => True) (fun _ U o U' => ∃ v L, o = .returned v ∧ Qc v U'.heap L ∧ FrameEnd U o U' L rm.cells rm.slots))
    (hf : rm.frames + 1 ≤ R.frames) (hl : W + (maxL + 11) + rm.locals ≤ R.locals) (hW : (rest.map fun v => v.category).sum ≤ W) (hc : cells + rm.cells ≤ R.cells) (hs : slots + rm.slots ≤ R.slots) (eT : T.heap = h) {st : List Value} (hst : st = argsL.reverse ++ rest) (hd : decode c.code pc = .ok (.invokestatic index, 3))
    (g : ∀ (v : Option Value) (T' : State) (L : List Loc), Stand p l e R s m args below meth c T' (locs ++ L) (cells + rm.cells) (slots + rm.slots) → Qc v T'.heap L → own_Go p e below Fin T' (mkF m (pc + 3) Ls (v.toList ++ rest))) :
    own_Go p e below Fin T (mkF m pc Ls st) := by
  subst hst
  obtain ⟨v, _, ⟨T2, L2, k2, n2⟩, -, X2, ⟨Lc2, hQ2, l2, y2, z2⟩, st2⟩ := Jvm.LawKit.callS X hx (y := y) hown (mvT hZ w1) (mvT hZ w2) (mvT hZ w3) (mvT hZ w4) hy (backOf (W := W) hM hZ w4 w3 hf hl) (g := (mkF m pc Ls (argsL.reverse ++ rest))) rfl hml (argsL := argsL) (rest := rest) (lenOf pd hlen) rfl (by show 2 * 0 + _ ≤ _; omega) hd (fun _ _ => ⟨rfl, eT, hc, hs⟩)
  dsimp only [Pt.U, Pt.locs, Pt.cells, Pt.slots] at X2 l2 y2 z2 st2 hQ2
  subst l2 y2 z2
  exact own_by (fun t kk => st2 _ kk) (g v T2 Lc2 X2 hQ2)
/-- a constructor by its contract -/
theorem own_callC (X : Stand p l e R s m args below meth c T locs cells slots) (hx : p.tables.exec = Jvm.exec) (hZ : Z.Warmed39 s.vm) {own : String} {index : Nat} {y : MethodName} {bytes : ByteArray} {maxL W : Nat} {rm : Room} {Qc : Option Value → Heap → List Loc → Prop} (hy1 : y.name = "<init>")
    (hown : s.vm.findClass own = some m.cls) (w1 : (Cond.methodLink own index y).before a0 Z = true) (w2 : (Cond.instanceMethod y).before a0 Z = true) (w3 : (Cond.initialized y.cls).before a0 Z = true) (w4 : (Cond.code y bytes maxL none).before a0 Z = true)
    (hy : y.cls ≠ "java/lang/invoke/MethodHandle" ∧ y.cls ≠ "java/lang/invoke/VarHandle") (hml : Ls.size = c.maxLocals) {a : Addr} {argsL : List Value} {ps : List FieldType} {rt : Option FieldType} (pd : parseMethodDescriptor y.desc = some ⟨ps, rt⟩) (hlen : argsL.length = ps.length)
    (hM : MetFree l y (head1 [Cond.code y bytes maxL none] rm) (fun b U => b = (.ref a :: argsL).toArray ∧ Z.Warmed39 U.vm ∧ U.heap = h) (fun _ _ _ _ _ => True) (fun _ U o U' => ∃ v L, o = .returned v ∧ Qc v U'.heap L ∧ FrameEnd U o U' L rm.cells rm.slots))
    (hf : rm.frames + 1 ≤ R.frames) (hl : W + (maxL + 11) + rm.locals ≤ R.locals) (hW : (rest.map fun v => v.category).sum ≤ W) (hc : cells + rm.cells ≤ R.cells) (hs : slots + rm.slots ≤ R.slots) (eT : T.heap = h) {st : List Value} (hst : st = argsL.reverse ++ .ref a :: rest) (hd : decode c.code pc = .ok (.invokespecial index, 3))
    (g : ∀ (v : Option Value) (T' : State) (L : List Loc), Stand p l e R s m args below meth c T' (locs ++ L) (cells + rm.cells) (slots + rm.slots) → Qc v T'.heap L → own_Go p e below Fin T' (mkF m (pc + 3) Ls (v.toList ++ rest))) :
    own_Go p e below Fin T (mkF m pc Ls st) := by
  subst hst
  obtain ⟨v, _, ⟨T2, L2, k2, n2⟩, -, X2, ⟨Lc2, hQ2, l2, y2, z2⟩, st2⟩ := X.specialBack hx (y := y) hy1 hown (mvT hZ w1) (mvT hZ w2) (mvT hZ w4) hy (backOf (W := W) hM hZ w4 w3 hf hl) (g := (mkF m pc Ls (argsL.reverse ++ .ref a :: rest))) rfl hml (Steps.refl _) (a := a) (argsL := argsL) (rest := rest) (lenOf pd hlen) rfl (by show 2 * 0 + _ ≤ _; omega) hd (fun _ _ => ⟨rfl, eT, hc, hs⟩)
  dsimp only [Pt.U, Pt.locs, Pt.cells, Pt.slots] at X2 l2 y2 z2 st2 hQ2
  subst l2 y2 z2
  exact own_by (fun t kk => st2.trans kk) (g v T2 Lc2 X2 hQ2)
/-- an instance method of the receiver's own class by its contract -/
theorem own_callV (X : Stand p l e R s m args below meth c T locs cells slots) (hx : p.tables.exec = Jvm.exec) (hZ : Z.Warmed39 s.vm) {own C : String} {index : Nat} {y z : MethodName} {bytes : ByteArray} {maxL W : Nat} {ret : Option FieldType} {rm : Room} {Qc : Option Value → Heap → List Loc → Prop}
    (hown : s.vm.findClass own = some m.cls) (w1 : (Cond.methodLink own index y).before a0 Z = true) (wd : (Cond.declares y).before a0 Z = true) (nf : NotFace s y) (ws : (Cond.selects C y z).before a0 Z = true) (w2 : (Cond.instanceMethod z).before a0 Z = true) (w3 : (Cond.initialized z.cls).before a0 Z = true) (w4 : (Cond.code z bytes maxL ret).before a0 Z = true)
    (hy : y.cls ≠ "java/lang/invoke/MethodHandle" ∧ y.cls ≠ "java/lang/invoke/VarHandle") (hml : Ls.size = c.maxLocals) {a : Addr} {argsL : List Value} {ps : List FieldType} {rt : Option FieldType} (pd : parseMethodDescriptor y.desc = some ⟨ps, rt⟩) (hlen : argsL.length = ps.length)
    (eT : T.heap = h) (E : Exa Z h a C)
    (hM : MetFree l z (head1 [Cond.code z bytes maxL ret] rm) (fun b U => b = (.ref a :: argsL).toArray ∧ Z.Warmed39 U.vm ∧ U.heap = h) (fun _ _ _ _ _ => True) (fun _ U o U' => ∃ v L, o = .returned v ∧ Qc v U'.heap L ∧ FrameEnd U o U' L rm.cells rm.slots))
    (hf : rm.frames + 1 ≤ R.frames) (hl : W + (maxL + 11) + rm.locals ≤ R.locals) (hW : (rest.map fun v => v.category).sum ≤ W) (hc : cells + rm.cells ≤ R.cells) (hs : slots + rm.slots ≤ R.slots) {st : List Value} (hst : st = argsL.reverse ++ .ref a :: rest) (hd : decode c.code pc = .ok (.invokevirtual index, 3))
    (g : ∀ (v : Option Value) (T' : State) (L : List Loc), Stand p l e R s m args below meth c T' (locs ++ L) (cells + rm.cells) (slots + rm.slots) → Qc v T'.heap L → own_Go p e below Fin T' (mkF m (pc + 3) Ls (v.toList ++ rest))) :
    own_Go p e below Fin T (mkF m pc Ls st) := by
  subst hst
  obtain ⟨cq, kq, qa, qb, qc⟩ := isOf hZ eT E
  obtain ⟨v, _, ⟨T2, L2, k2, n2⟩, -, X2, ⟨Lc2, hQ2, l2, y2, z2⟩, st2⟩ := X.virtualBack hx (y := y) (z := z) hown (mvT hZ w1) (mvT hZ wd) nf (mvT hZ ws) (mvT hZ w2) hy (backOf (W := W) hM hZ w4 w3 hf hl) qa qc (g := (mkF m pc Ls (argsL.reverse ++ .ref a :: rest))) rfl hml (Steps.refl _) (argsL := argsL) (rest := rest) (lenOf pd hlen) rfl (by show 2 * 0 + _ ≤ _; omega) hd (fun _ _ => ⟨rfl, eT, hc, hs⟩)
  dsimp only [Pt.U, Pt.locs, Pt.cells, Pt.slots] at X2 l2 y2 z2 st2 hQ2
  subst l2 y2 z2
  exact own_by (fun t kk => st2.trans kk) (g v T2 Lc2 X2 hQ2)
theorem own_getF (X : Stand p l e R s m args below meth c T locs cells slots) (hx : p.tables.exec = Jvm.exec) (hZ : Z.Warmed39 s.vm) {own R0 O nm d : String} {index : Nat} (hown : s.vm.findClass own = some m.cls) (w : (Cond.fieldLink own index R0 nm d).before a0 Z = true) (via : Via Z R0 O nm d) (eT : T.heap = h) {a : Addr} {v : Value} (F : Fld Z h a O nm d v) (hd : decode c.code pc = .ok (.getfield index, 3))
    (g : ∀ T', Stand p l e R s m args below meth c T' locs cells slots → T'.heap = h → own_Go p e below Fin T' (mkF m (pc + 3) Ls (v :: rest))) : own_Go p e below Fin T (mkF m pc Ls (.ref a :: rest)) := by
  obtain ⟨T', X', e', st⟩ := getF X hx hZ hown (host := "") (Or.inl w) via eT F (g := mkF m pc Ls (.ref a :: rest)) rfl rfl hd
  exact own_by (fun t kk => st _ kk) (g T' X' e')
theorem own_getFN (X : Stand p l e R s m args below meth c T locs cells slots) (hx : p.tables.exec = Jvm.exec) (hZ : Z.Warmed39 s.vm) {own R0 O nm d host : String} {index : Nat} (hown : s.vm.findClass own = some m.cls) (w : (Cond.fieldLinkNest own index R0 nm d host).before a0 Z = true) (via : Via Z R0 O nm d) (eT : T.heap = h) {a : Addr} {v : Value} (F : Fld Z h a O nm d v) (hd : decode c.code pc = .ok (.getfield index, 3))
    (g : ∀ T', Stand p l e R s m args below meth c T' locs cells slots → T'.heap = h → own_Go p e below Fin T' (mkF m (pc + 3) Ls (v :: rest))) : own_Go p e below Fin T (mkF m pc Ls (.ref a :: rest)) := by
  obtain ⟨T', X', e', st⟩ := getF X hx hZ hown (Or.inr w) via eT F (g := mkF m pc Ls (.ref a :: rest)) rfl rfl hd
  exact own_by (fun t kk => st _ kk) (g T' X' e')
theorem own_getS (X : Stand p l e R s m args below meth c T locs cells slots) (hx : p.tables.exec = Jvm.exec) (hZ : Z.Warmed39 s.vm) {own R0 O nm d : String} {index : Nat} (hown : s.vm.findClass own = some m.cls) (w : (Cond.fieldLink own index R0 nm d).before a0 Z = true) (via : Via Z R0 O nm d) (eT : T.heap = h) {v : Value} (F : Sta Z h O nm d v) (hd : decode c.code pc = .ok (.getstatic index, 3)) {st0 : List Value}
    (g : ∀ T', Stand p l e R s m args below meth c T' locs cells slots → T'.heap = h → own_Go p e below Fin T' (mkF m (pc + 3) Ls (v :: st0))) : own_Go p e below Fin T (mkF m pc Ls st0) := by
  obtain ⟨T', X', e', st⟩ := getS2 X hx hZ hown (host := "") (Or.inl w) via eT F (g := mkF m pc Ls st0) rfl hd
  exact own_by (fun t kk => st _ kk) (g T' X' e')
theorem own_getSN (X : Stand p l e R s m args below meth c T locs cells slots) (hx : p.tables.exec = Jvm.exec) (hZ : Z.Warmed39 s.vm) {own R0 O nm d host : String} {index : Nat} (hown : s.vm.findClass own = some m.cls) (w : (Cond.fieldLinkNest own index R0 nm d host).before a0 Z = true) (via : Via Z R0 O nm d) (eT : T.heap = h) {v : Value} (F : Sta Z h O nm d v) (hd : decode c.code pc = .ok (.getstatic index, 3)) {st0 : List Value}
    (g : ∀ T', Stand p l e R s m args below meth c T' locs cells slots → T'.heap = h → own_Go p e below Fin T' (mkF m (pc + 3) Ls (v :: st0))) : own_Go p e below Fin T (mkF m pc Ls st0) := by
  obtain ⟨T', X', e', st⟩ := getS2 X hx hZ hown (Or.inr w) via eT F (g := mkF m pc Ls st0) rfl hd
  exact own_by (fun t kk => st _ kk) (g T' X' e')
theorem own_putF (X : Stand p l e R s m args below meth c T locs cells slots) (hx : p.tables.exec = Jvm.exec) (hZ : Z.Warmed39 s.vm) {own R0 O nm d C : String} {index kk : Nat} {ty : FieldType} (hown : s.vm.findClass own = some m.cls) (w : (Cond.fieldLink own index R0 nm d).before a0 Z = true) (via : Via Z R0 O nm d) (eT : T.heap = h) {a : Addr} {v old : Value} (F : Fld Z h a O nm d old) (E : Exa Z h a C)
    (L : (Cond.lays C O nm d).before a0 Z = true ∨ ((Cond.laysFinal C O nm d).before a0 Z = true ∧ own = O ∧ meth.name = "<init>")) (wi : (Cond.instantiable C kk).before a0 Z = true) (hty : parseFieldDescriptor d = some ty) (hn : narrow ty v = v) (hf : fits ty v = true) (hd : decode c.code pc = .ok (.putfield index, 3))
    (g : ∀ T' h', Stand p l e R s m args below meth c T' (locs ++ [⟨a, Jvm.RoadKit.slotOf Z O nm d⟩]) cells slots → T'.heap = h' → Wr h h' a (Jvm.RoadKit.slotOf Z O nm d) v → own_Go p e below Fin T' (mkF m (pc + 3) Ls rest)) : own_Go p e below Fin T (mkF m pc Ls (v :: .ref a :: rest)) := by
  obtain ⟨T', h', X', e', W', st⟩ := putF X hx hZ hown (host := "") (Or.inl w) via eT F E L wi hty hn hf (g := mkF m pc Ls (v :: .ref a :: rest)) rfl rfl hd
  exact own_by (fun t kk => st _ kk) (g T' h' X' e' W')
theorem own_newO (X : Stand p l e R s m args below meth c T locs cells slots) (hx : p.tables.exec = Jvm.exec) (hZ : Z.Warmed39 s.vm) {own C : String} {index nn : Nat} (hown : s.vm.findClass own = some m.cls) (w : (Cond.classLink own index C).before a0 Z = true) (wi : (Cond.instantiable C nn).before a0 Z = true) (wz : (Cond.initialized C).before a0 Z = true) (eT : T.heap = h) (hd : decode c.code pc = .ok (.new index, 3)) (hc : cells + 1 ≤ R.cells) (hl : slots + nn ≤ R.slots) {st0 : List Value}
    (g : ∀ T' h' (b : Addr), Stand p l e R s m args below meth c T' locs (cells + 1) (slots + nn) → T'.heap = h' → b = h.size → Ext h h' → Exa Z h' b C → (∀ {O nm d : String} {ty : FieldType}, Laid Z a0 C O nm d → parseFieldDescriptor d = some ty → Fld Z h' b O nm d (defaultValue ty)) → own_Go p e below Fin T' (mkF m (pc + 3) Ls (.ref b :: st0))) : own_Go p e below Fin T (mkF m pc Ls st0) := by
  obtain ⟨T', h', X', e', E', A', D', -, st⟩ := newO X hx hZ hown w wi wz eT (g := mkF m pc Ls st0) rfl hd hc hl
  exact own_by (fun t kk => st _ kk) (g T' h' _ X' e' rfl E' A' D')
theorem own_initO (X : Stand p l e R s m args below meth c T locs cells slots) (hx : p.tables.exec = Jvm.exec) (hZ : Z.Warmed39 s.vm) {own : String} {idx : Nat} (hown : s.vm.findClass own = some m.cls) (w1 : (Cond.methodLink own idx Lib.objectInit).before a0 Z = true) (w2 : (Cond.instanceMethod Lib.objectInit).before a0 Z = true) (w3 : (Cond.code Lib.objectInit ⟨#[0xb1]⟩ 1 none).before a0 Z = true) (eT : T.heap = h) (hml : Ls.size = c.maxLocals) {a : Addr} (hd : decode c.code pc = .ok (.invokespecial idx, 3)) (hf : 1 ≤ R.frames) {W : Nat} (hW : (rest.map fun v => v.category).sum ≤ W) (hl : W + 12 ≤ R.locals)
    (g : ∀ T', Stand p l e R s m args below meth c T' locs cells slots → T'.heap = h → own_Go p e below Fin T' (mkF m (pc + 3) Ls rest)) : own_Go p e below Fin T (mkF m pc Ls (.ref a :: rest)) := by
  obtain ⟨T', X', e', st⟩ := initO X hx hZ hown w1 w2 w3 eT (g := mkF m pc Ls (.ref a :: rest)) rfl hml rfl hd hf (W := W) (by show 2 * 0 + _ ≤ _; omega) hl
  exact own_by (fun t kk => st _ kk) (g T' X' e')
end OwnKit
section OwnMore
variable {p : Program} {l : Launch} {e : Env} {R : Room} {s : State} {m : MethodId} {args : Array Value} {below : List Frame} {meth : Method} {c : Code} {T T' : State} {locs : List Loc} {cells slots : Nat} {Q : Option Value → Heap → List Loc → Prop} {k n : Nat} {Fin : Outcome → State → Prop} {Z : State} {a0 : Array Value} {h : Heap} {pc : Nat} {Ls : Array Slot} {rest : List Value}
theorem own_acmpEq (X : Stand p l e R s m args below meth c T locs cells slots) (hx : p.tables.exec = Jvm.exec) {a b : Addr} {o : Int} (pc' : Nat) (hd : decode c.code pc = .ok (.if_acmp .eq o, 3)) (ho : 0 ≤ (pc : Int) + o) (hp : ((pc : Int) + o).toNat = pc')
    (g1 : a = b → own_Go p e below Fin T (mkF m pc' Ls rest)) (g2 : ¬ a = b → own_Go p e below Fin T (mkF m (pc + 3) Ls rest)) : own_Go p e below Fin T (mkF m pc Ls (.ref b :: .ref a :: rest)) := by
  by_cases q : a = b
  · exact own_by (fun t kk => XT.acmpYes X.here hx rfl (pc0 := pc) (pc' := pc') rfl hd rfl rfl rfl (decide_eq_true (congrArg Value.ref q)) ho hp kk) (g1 q)
  · exact own_by (fun t kk => XT.acmpNo X.here hx rfl hd rfl rfl rfl (decide_eq_false fun z => q (Value.ref.inj z)) kk) (g2 q)
theorem own_acmpNe (X : Stand p l e R s m args below meth c T locs cells slots) (hx : p.tables.exec = Jvm.exec) {a b : Addr} {o : Int} (pc' : Nat) (hd : decode c.code pc = .ok (.if_acmp .ne o, 3)) (ho : 0 ≤ (pc : Int) + o) (hp : ((pc : Int) + o).toNat = pc')
    (g1 : ¬ a = b → own_Go p e below Fin T (mkF m pc' Ls rest)) (g2 : a = b → own_Go p e below Fin T (mkF m (pc + 3) Ls rest)) : own_Go p e below Fin T (mkF m pc Ls (.ref b :: .ref a :: rest)) := by
  by_cases q : a = b
  · exact own_by (fun t kk => XT.acmpNo X.here hx rfl hd rfl rfl rfl (decide_eq_false fun z => z (congrArg Value.ref q)) kk) (g2 q)
  · exact own_by (fun t kk => XT.acmpYes X.here hx rfl (pc0 := pc) (pc' := pc') rfl hd rfl rfl rfl (decide_eq_true fun z => q (Value.ref.inj z)) ho hp kk) (g1 q)
theorem own_eqI {args : Array Value} {t : Term} {x : Int32} (h : (Cond.eq t (.int x)).value args s none s [] = some true) : t.eval args s none [] s = some (.int x) := by
  have q : (Term.int x).eval args s none [] s = some (.int x) := rfl
  cases ht : t.eval args s none [] s with
  | none => simp [Cond.value, ht] at h
  | some w => cases w <;> simp [Cond.value, ht, q] at h <;> (try subst h) <;> simp_all
theorem own_enumF {args : Array Value} {C f d O nm dd : String} {a : Addr} {x : Int32} (ev : (Term.static C f d).eval args s none [] s = some (.ref a)) (h : (Cond.eq (Term.field (Term.static C f d) O nm dd) (.int x)).value args s none s [] = some true) : Fld s s.heap a O nm dd (.int x) :=
  Fld.start ((fld_at ev).symm.trans (own_eqI h))
theorem own_Sta_keep {Z : State} {h h' : Heap} {C n d : String} {v : Value} {ws : List Addr} (F : Sta Z h C n d v) (K : Keep h h' ws) (q : ∀ x ∈ ws, ∀ cell : Cell, h[x]? = some cell → cell.vm.isStatics = false) : Sta Z h' C n d v := by
  obtain ⟨cf, i, k, f, st, cell, h1, h2, h3, h4, h5, h6, h7⟩ := F
  exact ⟨cf, i, k, f, st, cell, h1, h2, h3, h4, K.2.1 st cell h5 (fun z => by rw [q st z cell h5] at h6; cases h6), h6, h7⟩
end OwnMore
section OwnCall
variable {p : Program} {l : Launch} {e : Env} {R : Room} {s : State} {m : MethodId} {args : Array Value} {below : List Frame} {meth : Method} {c : Code} {T T' : State} {locs : List Loc} {cells slots : Nat} {Fin : Outcome → State → Prop} {Z : State} {a0 : Array Value} {h : Heap} {pc : Nat} {Ls : Array Slot} {rest : List Value}
/-- a private method is selected itself -/
theorem own_selp {y : MethodName} {nn : Nat} (hins : (Cond.instantiable y.cls nn).before args s = true) (hpriv : (Cond.privateMethod y).before args s = true) (hinst : (Cond.instanceMethod y).before args s = true) (hy : y.cls ≠ "java/lang/invoke/MethodHandle" ∧ y.cls ≠ "java/lang/invoke/VarHandle") :
    (Cond.selects y.cls y y).before args s = true := by
  obtain ⟨cc, kc, hc, hk, -, hniab, -, -⟩ := Cond.instantiable_spec hins
  have hni : kc.isInterface = false := (Bool.or_eq_false_iff.mp hniab).1
  obtain ⟨mk, methM, hnamed, hmethM, -, -⟩ := Cond.instanceMethod_spec hinst
  have hfound : s.methodFound? y.cls y.name y.desc = some mk := State.methodFound?_of_named hnamed hy
  have hcls : mk.cls = cc := Option.some.inj ((findClass_of_methodNamed hnamed).symm.trans hc)
  have hsel : selectMethod {} s.vm cc mk = .method mk := selectMethod_private hmethM (Cond.privateMethod_at hpriv mk methM hnamed hmethM)
  simp only [Cond.before, Cond.holds, Cond.value, hc, hfound, hnamed, hsel, hcls, hk]
  simp; exact hni
/-- a private method of the receiver by its contract -/
theorem own_callP (X : Stand p l e R s m args below meth c T locs cells slots) (hx : p.tables.exec = Jvm.exec) (hZ : Z.Warmed39 s.vm) {own C : String} {index nn : Nat} {y : MethodName} {bytes : ByteArray} {maxL W : Nat} {ret : Option FieldType} {rm : Room} {Qc : Option Value → Heap → List Loc → Prop}
    (hown : s.vm.findClass own = some m.cls) (w1 : (Cond.methodLink own index y).before a0 Z = true) (w2 : (Cond.instanceMethod y).before a0 Z = true) (wi : (Cond.instantiable y.cls nn).before a0 Z = true) (wp : (Cond.privateMethod y).before a0 Z = true) (w3 : (Cond.initialized y.cls).before a0 Z = true) (w4 : (Cond.code y bytes maxL ret).before a0 Z = true)
    (hy : y.cls ≠ "java/lang/invoke/MethodHandle" ∧ y.cls ≠ "java/lang/invoke/VarHandle") (hml : Ls.size = c.maxLocals) {a : Addr} {argsL : List Value} {ps : List FieldType} {rt : Option FieldType} (pd : parseMethodDescriptor y.desc = some ⟨ps, rt⟩) (hlen : argsL.length = ps.length)
    (eT : T.heap = h) (E : Exa Z h a C)
    (hM : MetFree l y (head1 [Cond.code y bytes maxL ret] rm) (fun b U => b = (.ref a :: argsL).toArray ∧ Z.Warmed39 U.vm ∧ U.heap = h) (fun _ _ _ _ _ => True) (fun _ U o U' => ∃ v L, o = .returned v ∧ Qc v U'.heap L ∧ FrameEnd U o U' L rm.cells rm.slots))
    (hf : rm.frames + 1 ≤ R.frames) (hl : W + (maxL + 11) + rm.locals ≤ R.locals) (hW : (rest.map fun v => v.category).sum ≤ W) (hc : cells + rm.cells ≤ R.cells) (hs : slots + rm.slots ≤ R.slots) {st : List Value} (hst : st = argsL.reverse ++ .ref a :: rest) (hd : decode c.code pc = .ok (.invokevirtual index, 3))
    (g : ∀ (v : Option Value) (T' : State) (L : List Loc), Stand p l e R s m args below meth c T' (locs ++ L) (cells + rm.cells) (slots + rm.slots) → Qc v T'.heap L → own_Go p e below Fin T' (mkF m (pc + 3) Ls (v.toList ++ rest))) :
    own_Go p e below Fin T (mkF m pc Ls st) := by
  subst hst
  obtain ⟨cq, q1, q2⟩ := E.cell
  obtain ⟨v, _, ⟨T2, L2, k2, n2⟩, -, X2, ⟨Lc2, hQ2, l2, y2, z2⟩, st2⟩ := X.privateBack hx (y := y) hown (mvT hZ w1) (mvT hZ w2) (own_selp (mvT hZ wi) (mvP hZ wp) (mvT hZ w2) hy) (Cond.privateMethod_at (mvP hZ wp (args := #[]))) (mvT hZ w4) hy (backOf (W := W) hM hZ w4 w3 hf hl) (g := (mkF m pc Ls (argsL.reverse ++ .ref a :: rest))) rfl hml (Steps.refl _) (a := a) (by rw [eT]; exact q1) q2 (argsL := argsL) (rest := rest) (lenOf pd hlen) rfl (by show 2 * 0 + _ ≤ _; omega) hd (fun _ _ => ⟨rfl, eT, hc, hs⟩)
  dsimp only [Pt.U, Pt.locs, Pt.cells, Pt.slots] at X2 l2 y2 z2 st2 hQ2
  subst l2 y2 z2
  exact own_by (fun t kk => st2.trans kk) (g v T2 Lc2 X2 hQ2)
/-- an interface's method by the contract of the body that the receiver's class selects -/
theorem own_callI (X : Stand p l e R s m args below meth c T locs cells slots) (hx : p.tables.exec = Jvm.exec) (hZ : Z.Warmed39 s.vm) {own C : String} {index count : Nat} {xi y : MethodName} {bytes : ByteArray} {maxL W : Nat} {ret : Option FieldType} {rm : Room} {Qc : Option Value → Heap → List Loc → Prop}
    (hown : s.vm.findClass own = some m.cls) (w1 : (Cond.methodLink own index xi).before a0 Z = true) (wd : (Cond.declares xi).before a0 Z = true) (wf : (Cond.interfaceMethod xi.cls xi.cls xi.name xi.desc).before a0 Z = true) (hwf : ((Cond.interfaceMethod xi.cls xi.cls xi.name xi.desc).onTables && (Cond.interfaceMethod xi.cls xi.cls xi.name xi.desc).keepsFace) = true) (ws : (Cond.selects C xi y).before a0 Z = true) (w2 : (Cond.instanceMethod y).before a0 Z = true) (wp : (Cond.publicMethod y).before a0 Z = true) (wu : (Cond.unhidden C xi.name xi.desc).before a0 Z = true) (wc : (Cond.castable C xi.cls).before a0 Z = true) (w3 : (Cond.initialized y.cls).before a0 Z = true) (w4 : (Cond.code y bytes maxL ret).before a0 Z = true)
    (hy : xi.cls ≠ "java/lang/invoke/MethodHandle" ∧ xi.cls ≠ "java/lang/invoke/VarHandle") (hml : Ls.size = c.maxLocals) {a : Addr} {argsL : List Value} {ps : List FieldType} {rt : Option FieldType} (pd : parseMethodDescriptor xi.desc = some ⟨ps, rt⟩) (hlen : argsL.length = ps.length)
    (eT : T.heap = h) (E : Exa Z h a C)
    (hM : MetFree l y (head1 [Cond.code y bytes maxL ret] rm) (fun b U => b = (.ref a :: argsL).toArray ∧ Z.Warmed39 U.vm ∧ U.heap = h) (fun _ _ _ _ _ => True) (fun _ U o U' => ∃ v L, o = .returned v ∧ Qc v U'.heap L ∧ FrameEnd U o U' L rm.cells rm.slots))
    (hf : rm.frames + 1 ≤ R.frames) (hl : W + (maxL + 11) + rm.locals ≤ R.locals) (hW : (rest.map fun v => v.category).sum ≤ W) (hc : cells + rm.cells ≤ R.cells) (hs : slots + rm.slots ≤ R.slots) {st : List Value} (hst : st = argsL.reverse ++ .ref a :: rest) (hd : decode c.code pc = .ok (.invokeinterface index count, 5))
    (g : ∀ (v : Option Value) (T' : State) (L : List Loc), Stand p l e R s m args below meth c T' (locs ++ L) (cells + rm.cells) (slots + rm.slots) → Qc v T'.heap L → own_Go p e below Fin T' (mkF m (pc + 5) Ls (v.toList ++ rest))) :
    own_Go p e below Fin T (mkF m pc Ls st) := by
  subst hst
  obtain ⟨cq, kq, qa, qb, qc⟩ := isOf hZ eT E
  obtain ⟨v, _, ⟨T2, L2, k2, n2⟩, -, X2, ⟨Lc2, hQ2, l2, y2, z2⟩, st2⟩ := X.interfaceBack hx (xi := xi) (y := y) hown (mvT hZ w1) (mvT hZ wd) (mvT hZ wf hwf) (mvT hZ ws) (mvT hZ w2) (mvT hZ wp) (mvT hZ wu) (mvT hZ wc) hy (backOf (W := W) hM hZ w4 w3 hf hl) qa qb qc (g := (mkF m pc Ls (argsL.reverse ++ .ref a :: rest))) rfl hml (Steps.refl _) (argsL := argsL) (rest := rest) (lenOf pd hlen) rfl (by show 2 * 0 + _ ≤ _; omega) hd (fun _ _ => ⟨rfl, eT, hc, hs⟩)
  dsimp only [Pt.U, Pt.locs, Pt.cells, Pt.slots] at X2 l2 y2 z2 st2 hQ2
  subst l2 y2 z2
  exact own_by (fun t kk => st2.trans kk) (g v T2 Lc2 X2 hQ2)
theorem own_cast (X : Stand p l e R s m args below meth c T locs cells slots) (hx : p.tables.exec = Jvm.exec) (hZ : Z.Warmed39 s.vm) {own K : String} {index : Nat} (hown : s.vm.findClass own = some m.cls) (w : (Cond.classLink own index K).before a0 Z = true) (eT : T.heap = h) {a : Addr} (F : Ins Z h a K true) (hd : decode c.code pc = .ok (.checkcast index, 3))
    (g : ∀ T', Stand p l e R s m args below meth c T' locs cells slots → T'.heap = h → own_Go p e below Fin T' (mkF m (pc + 3) Ls (.ref a :: rest))) : own_Go p e below Fin T (mkF m pc Ls (.ref a :: rest)) := by
  obtain ⟨T', X', e', st⟩ := castY X hx hZ hown w eT F (g := mkF m pc Ls (.ref a :: rest)) rfl rfl hd
  exact own_by (fun t kk => st _ kk) (g T' X' e')
theorem own_inst (X : Stand p l e R s m args below meth c T locs cells slots) (hx : p.tables.exec = Jvm.exec) (hZ : Z.Warmed39 s.vm) {own K : String} {index : Nat} (hown : s.vm.findClass own = some m.cls) (w : (Cond.classLink own index K).before a0 Z = true) (eT : T.heap = h) {a : Addr} (F : Ins Z h a K true) (hd : decode c.code pc = .ok (.instanceof index, 3))
    (g : ∀ T', Stand p l e R s m args below meth c T' locs cells slots → T'.heap = h → own_Go p e below Fin T' (mkF m (pc + 3) Ls (.int (1 : Int32) :: rest))) : own_Go p e below Fin T (mkF m pc Ls (.ref a :: rest)) := by
  obtain ⟨T', X', e', st⟩ := instY X hx hZ hown w eT F (g := mkF m pc Ls (.ref a :: rest)) rfl rfl hd
  exact own_by (fun t kk => st _ kk) (g T' X' e')
end OwnCall
section OwnArr
variable {p : Program} {l : Launch} {e : Env} {R : Room} {s : State} {m : MethodId} {args : Array Value} {below : List Frame} {meth : Method} {c : Code} {T T' : State} {locs : List Loc} {cells slots : Nat} {Q : Option Value → Heap → List Loc → Prop} {k n : Nat} {Fin : Outcome → State → Prop} {Z : State} {a0 : Array Value} {h h' : Heap} {pc : Nat} {Ls : Array Slot} {rest : List Value}
/-- the array at a holds just vs -/
def own_Arr (Z : State) (h : Heap) (a : Addr) (ty : FieldType) (vs : List Value) : Prop := ∃ cl : Cell, Arr Z h a cl ty ∧ cl.slots = vs.toArray ∧ vs.length < 2 ^ 31 ∧ ∀ v ∈ vs, fits ty v = true
section Facts
variable {a b : Addr} {ty : FieldType} {vs : List Value} {sl : Nat} {v : Value} {ws : List Addr}
theorem own_Arr.lt (F : own_Arr Z h a ty vs) : a < h.size := by obtain ⟨c, A, -⟩ := F; exact A.lt
theorem own_Arr.ext (F : own_Arr Z h a ty vs) (E : Ext h h') : own_Arr Z h' a ty vs := by obtain ⟨c, A, r⟩ := F; exact ⟨c, A.ext E, r⟩
theorem own_Arr.other (F : own_Arr Z h b ty vs) (W : Wr h h' a sl v) (q : b ≠ a) : own_Arr Z h' b ty vs := by obtain ⟨c, A, r⟩ := F; exact ⟨c, A.other W q, r⟩
theorem own_Arr.keep (F : own_Arr Z h a ty vs) (K : Keep h h' ws) (q : a ∉ ws) : own_Arr Z h' a ty vs := by obtain ⟨c, A, r⟩ := F; exact ⟨c, ⟨K.2.1 a c A.1 q, A.2⟩, r⟩
theorem own_Arr.set (F : own_Arr Z h a ty vs) (W : Wr h h' a sl v) (hv : fits ty v = true) : own_Arr Z h' a ty (vs.set sl v) := by
  obtain ⟨c, A, r1, r2, r3⟩ := F
  refine ⟨_, A.same W, ?_, by simpa using r2, fun u hu => ?_⟩
  rotate_left
  · rcases List.mem_or_eq_of_mem_set hu with q | q
    · exact r3 u q
    · rw [q]; exact hv
  show c.slots.setIfInBounds sl v = _
  rw [r1]; simp
theorem own_idx {j : Int32} {i : Nat} (hj : j.toInt = (i : Int)) : j.toNatClampNeg = i ∧ ¬ j < 0 := by
  constructor
  · show j.toInt.toNat = i
    rw [hj]; simp
  · rw [Int32.lt_iff_toInt_lt, hj]
    have : (0 : Int32).toInt = 0 := by decide
    omega
theorem own_inb {cl : Cell} {j : Int32} {i : Nat} (hj : j.toInt = (i : Int)) (hs : cl.slots = vs.toArray) (hi : i < vs.length) : ¬ (j < 0 ∨ cl.slots.size ≤ j.toNatClampNeg) := by
  obtain ⟨q1, q2⟩ := own_idx hj
  rw [q1, hs]
  intro q
  rcases q with q | q
  · exact q2 q
  · simp at q; omega
theorem own_lt_of {i : Nat} {v : Value} (hv : vs[i]? = some v) : i < vs.length := (List.getElem?_eq_some_iff.mp hv).1
theorem own_Arr.new {cA : ClassId} {j : Int32} {i : Nat} (A : Arr Z h a (newA cA ty j) ty) (hj : j.toInt = (i : Int)) : own_Arr Z h a ty (List.replicate i (defaultValue ty)) := by
  refine ⟨_, A, ?_, ?_, fun u hu => ?_⟩
  rotate_left 2
  · rw [(List.mem_replicate.mp hu).2]
    cases ty <;> rfl
  · show Array.replicate j.toNatClampNeg (defaultValue ty) = _
    rw [(own_idx hj).1]; simp
  · have := Int32.toInt_lt j
    simp; omega
end Facts
theorem own_newP (X : Stand p l e R s m args below meth c T locs cells slots) (hx : p.tables.exec = Jvm.exec) (hZ : Z.Warmed39 s.vm) {aty : ArrayType} (w : (Cond.arrayClass (newarray.typeOf aty)).before a0 Z = true) (eT : T.heap = h) (hd : decode c.code pc = .ok (.newarray aty, 2)) {j : Int32} (i cap : Nat) (hj : j.toInt = (i : Int)) (hcap : i ≤ cap) (hb : cap * 8 ≤ 536870912) (hc : cells + 1 ≤ R.cells) (hl : slots + cap ≤ R.slots)
    (g : ∀ T' h' (b : Addr), Stand p l e R s m args below meth c T' locs (cells + 1) (slots + cap) → T'.heap = h' → b = h.size → Ext h h' → own_Arr Z h' b (newarray.typeOf aty) (List.replicate i (defaultValue (newarray.typeOf aty))) → own_Go p e below Fin T' (mkF m (pc + 2) Ls (.ref b :: rest))) : own_Go p e below Fin T (mkF m pc Ls (.int j :: rest)) := by
  obtain ⟨q1, q2⟩ := own_idx hj
  obtain ⟨T', h', cA, X', e', E', A', st⟩ := newP X hx hZ w eT (g := mkF m pc Ls (.int j :: rest)) rfl hd rfl q2 (cap := cap) (by rw [q1]; exact hcap) hb hc hl
  exact own_by (fun t kk => st _ kk) (g T' h' _ X' e' rfl E' (own_Arr.new A' hj))
theorem own_iastore (X : Stand p l e R s m args below meth c T locs cells slots) (hx : p.tables.exec = Jvm.exec) (hZ : Z.Warmed39 s.vm) (eT : T.heap = h) {a : Addr} {vs : List Value} (A : own_Arr Z h a .int vs) {j x : Int32} (i : Nat) (hj : j.toInt = (i : Int)) (hi : i < vs.length) (hd : decode c.code pc = .ok (.iastore, 1))
    (g : ∀ T' h', Stand p l e R s m args below meth c T' (locs ++ [⟨a, i⟩]) cells slots → T'.heap = h' → Wr h h' a i (.int x) → own_Arr Z h' a .int (vs.set i (.int x)) → own_Go p e below Fin T' (mkF m (pc + 1) Ls rest)) : own_Go p e below Fin T (mkF m pc Ls (.int x :: .int j :: .ref a :: rest)) := by
  have A' := A
  obtain ⟨cl, A1, r1, r2⟩ := A
  obtain ⟨T', h', X', e', W', st⟩ := stI X hx hZ eT A1 (own_inb hj r1 hi) (g := mkF m pc Ls (.int x :: .int j :: .ref a :: rest)) rfl rfl hd
  rw [(own_idx hj).1] at X' W'
  exact own_by (fun t kk => st _ kk) (g T' h' X' e' W' (A'.set W' rfl))
theorem own_iaload (X : Stand p l e R s m args below meth c T locs cells slots) (hx : p.tables.exec = Jvm.exec) (hZ : Z.Warmed39 s.vm) (eT : T.heap = h) {a : Addr} {vs : List Value} (A : own_Arr Z h a .int vs) {j : Int32} {v : Value} (i : Nat) (hj : j.toInt = (i : Int)) (hv : vs[i]? = some v) (hd : decode c.code pc = .ok (.iaload, 1))
    (g : own_Go p e below Fin T (mkF m (pc + 1) Ls (v :: rest))) : own_Go p e below Fin T (mkF m pc Ls (.int j :: .ref a :: rest)) := by
  obtain ⟨cl, A1, r1, r2⟩ := A
  exact own_by (fun t kk => X.iaload hx (j := j) (v := v) (by rw [eT]; exact A1.1) (State.isArrayOf_alike hZ.alike A1.2.1) A1.2.2 (own_inb hj r1 (own_lt_of hv)) (by rw [(own_idx hj).1, r1]; simpa using hv) (g := mkF m pc Ls (.int j :: .ref a :: rest)) rfl rfl hd _ kk) g
theorem own_caload (X : Stand p l e R s m args below meth c T locs cells slots) (hx : p.tables.exec = Jvm.exec) (hZ : Z.Warmed39 s.vm) (eT : T.heap = h) {a : Addr} {vs : List Value} (A : own_Arr Z h a .char vs) {j : Int32} {v : Value} (i : Nat) (hj : j.toInt = (i : Int)) (hv : vs[i]? = some v) (hd : decode c.code pc = .ok (.caload, 1))
    (g : own_Go p e below Fin T (mkF m (pc + 1) Ls (v :: rest))) : own_Go p e below Fin T (mkF m pc Ls (.int j :: .ref a :: rest)) := by
  obtain ⟨cl, A1, r1, r2⟩ := A
  exact own_by (fun t kk => X.caload hx (j := j) (v := v) (by rw [eT]; exact A1.1) (State.isArrayOf_alike hZ.alike A1.2.1) A1.2.2 (own_inb hj r1 (own_lt_of hv)) (by rw [(own_idx hj).1, r1]; simpa using hv) (g := mkF m pc Ls (.int j :: .ref a :: rest)) rfl rfl hd _ kk) g
theorem own_baload (X : Stand p l e R s m args below meth c T locs cells slots) (hx : p.tables.exec = Jvm.exec) (hZ : Z.Warmed39 s.vm) (eT : T.heap = h) {a : Addr} {vs : List Value} (A : own_Arr Z h a .byte vs) {j : Int32} {v : Value} (i : Nat) (hj : j.toInt = (i : Int)) (hv : vs[i]? = some v) (hd : decode c.code pc = .ok (.baload, 1))
    (g : own_Go p e below Fin T (mkF m (pc + 1) Ls (v :: rest))) : own_Go p e below Fin T (mkF m pc Ls (.int j :: .ref a :: rest)) := by
  obtain ⟨cl, A1, r1, r2⟩ := A
  exact own_by (fun t kk => X.baloadBytes hx (j := j) (v := v) (by rw [eT]; exact A1.1) (State.isArrayOf_alike hZ.alike A1.2.1) A1.2.2 (own_inb hj r1 (own_lt_of hv)) (by rw [(own_idx hj).1, r1]; simpa using hv) (g := mkF m pc Ls (.int j :: .ref a :: rest)) rfl rfl hd _ kk) g
theorem own_laload (X : Stand p l e R s m args below meth c T locs cells slots) (hx : p.tables.exec = Jvm.exec) (hZ : Z.Warmed39 s.vm) (eT : T.heap = h) {a : Addr} {vs : List Value} (A : own_Arr Z h a .long vs) {j : Int32} {v : Value} (i : Nat) (hj : j.toInt = (i : Int)) (hv : vs[i]? = some v) (hd : decode c.code pc = .ok (.laload, 1))
    (g : own_Go p e below Fin T (mkF m (pc + 1) Ls (v :: rest))) : own_Go p e below Fin T (mkF m pc Ls (.int j :: .ref a :: rest)) := by
  obtain ⟨cl, A1, r1, r2⟩ := A
  exact own_by (fun t kk => X.laload hx (j := j) (v := v) (by rw [eT]; exact A1.1) (State.isArrayOf_alike hZ.alike A1.2.1) A1.2.2 (own_inb hj r1 (own_lt_of hv)) (by rw [(own_idx hj).1, r1]; simpa using hv) (g := mkF m pc Ls (.int j :: .ref a :: rest)) rfl rfl hd _ kk) g
theorem own_castore (X : Stand p l e R s m args below meth c T locs cells slots) (hx : p.tables.exec = Jvm.exec) (hZ : Z.Warmed39 s.vm) (eT : T.heap = h) {a : Addr} {vs : List Value} (A : own_Arr Z h a .char vs) {j : Int32} {x : Int32} (i : Nat) (hj : j.toInt = (i : Int)) (hi : i < vs.length) (hd : decode c.code pc = .ok (.castore, 1))
    (g : ∀ T' h', Stand p l e R s m args below meth c T' (locs ++ [⟨a, i⟩]) cells slots → T'.heap = h' → Wr h h' a i (.int (nar .char x)) → own_Arr Z h' a .char (vs.set i (.int (nar .char x))) → own_Go p e below Fin T' (mkF m (pc + 1) Ls rest)) : own_Go p e below Fin T (mkF m pc Ls (.int x :: .int j :: .ref a :: rest)) := by
  have A' := A
  obtain ⟨cl, A1, r1, r2⟩ := A
  obtain ⟨T', h', X', e', W', st⟩ := stC X hx hZ eT A1 (own_inb hj r1 hi) (g := mkF m pc Ls (.int x :: .int j :: .ref a :: rest)) rfl rfl hd
  rw [(own_idx hj).1] at X' W'
  exact own_by (fun t kk => st _ kk) (g T' h' X' e' W' (A'.set W' (fits_nar_char _)))
theorem own_bastore (X : Stand p l e R s m args below meth c T locs cells slots) (hx : p.tables.exec = Jvm.exec) (hZ : Z.Warmed39 s.vm) (eT : T.heap = h) {a : Addr} {vs : List Value} (A : own_Arr Z h a .byte vs) {j : Int32} {x : Int32} (i : Nat) (hj : j.toInt = (i : Int)) (hi : i < vs.length) (hd : decode c.code pc = .ok (.bastore, 1))
    (g : ∀ T' h', Stand p l e R s m args below meth c T' (locs ++ [⟨a, i⟩]) cells slots → T'.heap = h' → Wr h h' a i (.int (nar .byte x)) → own_Arr Z h' a .byte (vs.set i (.int (nar .byte x))) → own_Go p e below Fin T' (mkF m (pc + 1) Ls rest)) : own_Go p e below Fin T (mkF m pc Ls (.int x :: .int j :: .ref a :: rest)) := by
  have A' := A
  obtain ⟨cl, A1, r1, r2⟩ := A
  obtain ⟨T', h', X', e', W', st⟩ := stB X hx hZ eT A1 (own_inb hj r1 hi) (g := mkF m pc Ls (.int x :: .int j :: .ref a :: rest)) rfl rfl hd
  rw [(own_idx hj).1] at X' W'
  exact own_by (fun t kk => st _ kk) (g T' h' X' e' W' (A'.set W' (fits_nar_byte _)))
theorem own_lastore (X : Stand p l e R s m args below meth c T locs cells slots) (hx : p.tables.exec = Jvm.exec) (hZ : Z.Warmed39 s.vm) (eT : T.heap = h) {a : Addr} {vs : List Value} (A : own_Arr Z h a .long vs) {j : Int32} {x : Int64} (i : Nat) (hj : j.toInt = (i : Int)) (hi : i < vs.length) (hd : decode c.code pc = .ok (.lastore, 1))
    (g : ∀ T' h', Stand p l e R s m args below meth c T' (locs ++ [⟨a, i⟩]) cells slots → T'.heap = h' → Wr h h' a i (.long x) → own_Arr Z h' a .long (vs.set i (.long x)) → own_Go p e below Fin T' (mkF m (pc + 1) Ls rest)) : own_Go p e below Fin T (mkF m pc Ls (.long x :: .int j :: .ref a :: rest)) := by
  have A' := A
  obtain ⟨cl, A1, r1, r2⟩ := A
  obtain ⟨T', h', X', e', W', st⟩ := stJ X hx hZ eT A1 (own_inb hj r1 hi) (g := mkF m pc Ls (.long x :: .int j :: .ref a :: rest)) rfl rfl hd
  rw [(own_idx hj).1] at X' W'
  exact own_by (fun t kk => st _ kk) (g T' h' X' e' W' (A'.set W' rfl))
theorem own_castoreN (X : Stand p l e R s m args below meth c T locs cells slots) (hx : p.tables.exec = Jvm.exec) (hZ : Z.Warmed39 s.vm) (eT : T.heap = h) {a : Addr} {vs : List Value} (A : own_Arr Z h a .char vs) {j : Int32} {x : Int32} (hxn : nar .char x = x) (i : Nat) (hj : j.toInt = (i : Int)) (hi : i < vs.length) (hd : decode c.code pc = .ok (.castore, 1))
    (g : ∀ T' h', Stand p l e R s m args below meth c T' (locs ++ [⟨a, i⟩]) cells slots → T'.heap = h' → Wr h h' a i (.int x) → own_Arr Z h' a .char (vs.set i (.int x)) → own_Go p e below Fin T' (mkF m (pc + 1) Ls rest)) : own_Go p e below Fin T (mkF m pc Ls (.int x :: .int j :: .ref a :: rest)) :=
  own_castore X hx hZ eT A i hj hi hd (by rw [hxn]; exact g)
theorem own_alen (X : Stand p l e R s m args below meth c T locs cells slots) (hx : p.tables.exec = Jvm.exec) (hZ : Z.Warmed39 s.vm) (eT : T.heap = h) {a : Addr} {ty : FieldType} {vs : List Value} (A : own_Arr Z h a ty vs) (hd : decode c.code pc = .ok (.arraylength, 1))
    (g : own_Go p e below Fin T (mkF m (pc + 1) Ls (.int vs.length.toInt32 :: rest))) : own_Go p e below Fin T (mkF m pc Ls (.ref a :: rest)) := by
  obtain ⟨cl, A1, r1, r2⟩ := A
  have hl : cl.slots.size = vs.length := by rw [r1]; simp
  rw [← hl] at g
  exact own_by (fun t kk => X.arraylength hx (by rw [eT]; exact A1.1) (State.isArrayOf_alike hZ.alike A1.2.1) (g := mkF m pc Ls (.ref a :: rest)) rfl rfl hd _ kk) g
theorem own_Arr.nostat {a : Addr} {ty : FieldType} {vs : List Value} (F : own_Arr Z h a ty vs) : ∀ cell : Cell, h[a]? = some cell → cell.vm.isStatics = false := by obtain ⟨c, A, -⟩ := F; exact A.nostat
theorem own_exa_arr {a b : Addr} {C : String} {kk : Nat} {ty : FieldType} {vs : List Value} (F : Exa Z h a C) (wi : (Cond.instantiable C kk).before a0 Z = true) (G : own_Arr Z h b ty vs) : a ≠ b := by
  obtain ⟨c, A, -⟩ := G
  exact ne_arr F wi A
theorem own_Arr.len {a : Addr} {ty : FieldType} {vs : List Value} (F : own_Arr Z h a ty vs) : vs.length < 2 ^ 31 := by obtain ⟨c, -, -, q, -⟩ := F; exact q
theorem own_getD {vs : List Value} {i : Nat} (hi : i < vs.length) (d : Value) : vs.getD i d = vs[i] := by simp [List.getD, hi]
theorem own_Arr.arv {a : Addr} {ty : FieldType} {vs : List Value} (F : own_Arr Z h a ty vs) (dv : Value) : ∃ kk, Arv Z h a kk ty vs.length.toInt32 vs dv := by
  obtain ⟨cl, A, r1, r2, r3⟩ := F
  have e1 : vs.length.toInt32.toInt = vs.length := len_toInt r2
  have e2 := own_idx e1
  have hs : cl.slots.size = vs.length := by rw [r1]; simp
  refine ⟨cl.cls, cl, A, rfl, by rw [hs, e2.1], e2.2, fun i hi => ?_, fun i hi => ?_⟩
  · rw [hs] at hi
    rw [own_getD hi, r1]; simp [hi]
  · rw [hs] at hi
    rw [own_getD hi]; exact r3 _ (List.getElem_mem hi)
theorem own_Arr.of_arv {a : Addr} {kk : ClassId} {ty : FieldType} {z : Int32} {vs : List Value} {dv : Value} (F : Arv Z h a kk ty z vs dv) (hl : z.toNatClampNeg = vs.length) : own_Arr Z h a ty vs := by
  obtain ⟨cl, A, -, q1, q2, H, G⟩ := F
  have hs : cl.slots.size = vs.length := q1.trans hl
  refine ⟨cl, A, ?_, ?_, fun v hv => ?_⟩
  · apply Array.ext'
    apply List.ext_getElem?
    intro i
    by_cases hi : i < vs.length
    · have := H i (by rw [hs]; exact hi)
      rw [own_getD hi] at this
      have q2 : (vs.toArray.toList)[i]? = some vs[i] := by simp [hi]
      rw [q2, Array.getElem?_toList]
      exact this
    · have h1 : cl.slots.toList[i]? = none := by rw [List.getElem?_eq_none_iff]; simp; omega
      have h2 : (vs.toArray.toList)[i]? = none := by rw [List.getElem?_eq_none_iff]; simp; omega
      rw [h1, h2]
  · rw [← hl]
    have := z.toInt_lt
    show z.toInt.toNat < 2 ^ 31
    omega
  · obtain ⟨i, hi, rfl⟩ := List.getElem_of_mem hv
    have := G i (by rw [hs]; exact hi)
    rwa [own_getD hi] at this
end OwnArr
section OwnList
/-- the list us written from the place i on -/
def own_put (vs : List Value) : Nat → List Int32 → List Value
  | _, [] => vs
  | i, u :: us => own_put (vs.set i (.int u)) (i + 1) us
theorem own_put_len : ∀ (us : List Int32) (vs : List Value) (i : Nat), (own_put vs i us).length = vs.length
  | [], vs, i => rfl
  | u :: us, vs, i => by rw [own_put, own_put_len us]; simp
/-- from the place i on the array holds xs -/
def own_At (vs : List Value) : Nat → List Int32 → Prop
  | _, [] => True
  | i, x :: xs => vs[i]? = some (.int x) ∧ own_At vs (i + 1) xs
theorem own_At_app : ∀ (xs ys : List Int32) (vs : List Value) (i : Nat), own_At vs i xs → own_At vs (i + xs.length) ys → own_At vs i (xs ++ ys)
  | [], ys, vs, i, _, h => by simpa using h
  | x :: xs, ys, vs, i, h, h' => by
    have e : i + 1 + xs.length = i + (x :: xs).length := by
      simp; omega
    exact ⟨h.1, own_At_app xs ys vs (i + 1) h.2 (by rw [e]; exact h')⟩
theorem own_put_lo : ∀ (us : List Int32) (vs : List Value) (i j : Nat), j < i → (own_put vs i us)[j]? = vs[j]?
  | [], vs, i, j, _ => rfl
  | u :: us, vs, i, j, h => by rw [own_put, own_put_lo us _ _ _ (by omega), List.getElem?_set_ne (by omega)]
theorem own_put_At : ∀ (us : List Int32) (vs : List Value) (i : Nat), i + us.length ≤ vs.length → own_At (own_put vs i us) i us
  | [], vs, i, _ => trivial
  | u :: us, vs, i, h => by
    have h' : i + 1 + us.length ≤ vs.length := by simp at h; omega
    refine ⟨?_, own_put_At us _ (i + 1) (by simpa using h')⟩
    rw [own_put, own_put_lo us _ _ _ (by omega)]
    have hi : i < vs.length := by simp at h; omega
    simp [hi]
theorem own_inc {x : Int32} {i : Nat} (h : x.toInt = (i : Int)) (hi : i + 1 < 2 ^ 31) : (x + 1).toInt = ((i + 1 : Nat) : Int) := by
  have k : (1 : Int32).toInt = 1 := by decide
  have e : (x + 1).toInt = x.toInt + (1 : Int32).toInt := Jvm.Kit.i32_add (by omega) (by omega)
  rw [e, h, k]; omega
theorem own_nlt {x y : Int32} {i j : Nat} (hx : x.toInt = (i : Int)) (hy : y.toInt = (j : Int)) (q : j ≤ i) : ¬ x < y := by rw [Int32.lt_iff_toInt_lt]; omega
theorem own_ilt {x y : Int32} {i j : Nat} (hx : x.toInt = (i : Int)) (hy : y.toInt = (j : Int)) (q : i < j) : x < y := by rw [Int32.lt_iff_toInt_lt]; omega
end OwnList
section OwnWide
variable {p : Program} {l : Launch} {e : Env} {R : Room} {s : State} {vm0 : Vm} {k0 : Nat} {m : MethodId} {args : Array Value} {below : List Frame} {meth : Method} {c : Code} {T T' : State} {locs : List Loc} {cells slots : Nat} {Q : Option Value → Heap → List Loc → Prop} {k n : Nat} {Fin : Outcome → State → Prop} {Z : State} {a0 : Array Value} {h : Heap} {pc : Nat} {Ls : Array Slot} {rest : List Value}
theorem own_ret_w (X : Stand p l e R (s.setVm vm0) m args below meth c T locs cells slots) (hx : p.tables.exec = Jvm.exec) (hS : s.Since vm0 k0) (hk0 : k0 ≤ h.size) (hlk : meth.locks = false) {w : Value} {t : FieldType} {i : Instr} (hret : meth.sig.returnType = some t)
    (hi : (i = .ireturn ∧ (t = .int ∨ t = .boolean ∨ t = .byte ∨ t = .char ∨ t = .short) ∧ ∃ z, w = .int z) ∨ (i = .lreturn ∧ t = .long ∧ ∃ z, w = .long z) ∨ (i = .dreturn ∧ t = .double ∧ ∃ z, w = .double z) ∨ (i = .freturn ∧ t = .float ∧ ∃ z, w = .float z) ∨ (i = .areturn ∧ t.isReference = true ∧ w.isRef = true))
    (hn : narrow t w = w) (hd : decode c.code pc = .ok (i, 1)) (eT : T.heap = h) (hk : cells ≤ k) (hs : slots ≤ n) (q : Q (some w) h locs) : own_Go p e below (own_FinW s Q k n) T (mkF m pc Ls (w :: rest)) := by
  obtain ⟨fs, hr, hrun, hended, hE⟩ := X.leaveW hS (by rw [eT]; exact hk0) (v := some w) (fun h => by rw [hret] at h; cases h) hlk
  refine ⟨_, _, retOut X hx hret hn hi hd hr, hrun, hended, _, _, rfl, ?_, hE.1, hE.2.1, hE.2.2.1, hE.2.2.2.mono hk hs⟩
  show Q _ T.heap _
  rw [eT]; exact q
theorem own_retIw (X : Stand p l e R (s.setVm vm0) m args below meth c T locs cells slots) (hx : p.tables.exec = Jvm.exec) (hS : s.Since vm0 k0) (hk0 : k0 ≤ h.size) (hlk : meth.locks = false) {z : Int32} (hret : meth.sig.returnType = some .int) (hd : decode c.code pc = .ok (.ireturn, 1)) (eT : T.heap = h) (hk : cells ≤ k) (hs : slots ≤ n) (q : Q (some (.int z)) h locs) : own_Go p e below (own_FinW s Q k n) T (mkF m pc Ls (.int z :: rest)) :=
  own_ret_w X hx hS hk0 hlk hret (Or.inl ⟨rfl, Or.inl rfl, z, rfl⟩) rfl hd eT hk hs q
theorem own_retZw (X : Stand p l e R (s.setVm vm0) m args below meth c T locs cells slots) (hx : p.tables.exec = Jvm.exec) (hS : s.Since vm0 k0) (hk0 : k0 ≤ h.size) (hlk : meth.locks = false) {z : Int32} (hret : meth.sig.returnType = some .boolean) (hz : z = 0 ∨ z = 1) (hd : decode c.code pc = .ok (.ireturn, 1)) (eT : T.heap = h) (hk : cells ≤ k) (hs : slots ≤ n) (q : Q (some (.int z)) h locs) : own_Go p e below (own_FinW s Q k n) T (mkF m pc Ls (.int z :: rest)) :=
  own_ret_w X hx hS hk0 hlk hret (Or.inl ⟨rfl, Or.inr (Or.inl rfl), z, rfl⟩) (by rcases hz with rfl | rfl <;> rfl) hd eT hk hs q
theorem own_retRw (X : Stand p l e R (s.setVm vm0) m args below meth c T locs cells slots) (hx : p.tables.exec = Jvm.exec) (hS : s.Since vm0 k0) (hk0 : k0 ≤ h.size) (hlk : meth.locks = false) {w : Value} {t : FieldType} (hret : meth.sig.returnType = some t) (ht : t.isReference = true) (hw : w.isRef = true) (hn : narrow t w = w) (hd : decode c.code pc = .ok (.areturn, 1)) (eT : T.heap = h) (hk : cells ≤ k) (hs : slots ≤ n) (q : Q (some w) h locs) : own_Go p e below (own_FinW s Q k n) T (mkF m pc Ls (w :: rest)) :=
  own_ret_w X hx hS hk0 hlk hret (Or.inr (Or.inr (Or.inr (Or.inr ⟨rfl, ht, hw⟩)))) hn hd eT hk hs q
/-- ldc of a String constant: it hands out some object -/
theorem own_ldcS (X : Stand p l e R (s.setVm vm0) m args below meth c T locs cells slots) (hx : p.tables.exec = Jvm.exec) (hZ : Z.Warmed39 vm0) {own text : String} {index : Nat} (hown : vm0.findClass own = some m.cls) (w : (Cond.stringLink own index text).before a0 Z = true) (wS : ∀ a ∈ Bundle.stringAtoms, a.before a0 Z = true) (eT : T.heap = h) (hS : s.Since vm0 k0) (hk : k0 ≤ h.size) (hd : decode c.code pc = .ok (.ldc index, 2)) (nn : Nat) (hn : 4 * text.toList.length ≤ nn) (hbig : nn ≤ 536870912) (hc : cells + 2 ≤ R.cells) (hl : slots + (nn + 4) ≤ R.slots) {st0 : List Value}
    (g : ∀ (a : Addr) (T' : State) (h' : Heap) (k1 : Nat), Stand p l e R (s.setVm T'.vm) m args below meth c T' locs (cells + 2) (slots + (nn + 4)) → T'.heap = h' → Ext h h' → s.Since T'.vm k1 → k1 ≤ h'.size → Z.Warmed39 (s.setVm T'.vm).vm → (s.setVm T'.vm).vm.findClass own = some m.cls → own_Go p e below Fin T' (mkF m (pc + 2) Ls (.ref a :: st0))) : own_Go p e below Fin T (mkF m pc Ls st0) := by
  obtain ⟨a, T', h', k1, X', e', E', S', k', Z', o', st⟩ := ldcS X hx hZ hown w wS eT hS hk (g := mkF m pc Ls st0) rfl hd (n := nn) hn hbig hc hl
  exact own_by (fun t kk => st _ kk) (g a T' h' k1 X' e' E' S' k' Z' o')
end OwnWide
section OwnLit
variable {p : Program} {l : Launch} {e : Env} {R : Room} {s : State} {vm0 : Vm} {k0 : Nat} {m : MethodId} {args : Array Value} {below : List Frame} {meth : Method} {c : Code} {T T' : State} {locs : List Loc} {cells slots : Nat} {Fin : Outcome → State → Prop} {Z : State} {a0 : Array Value} {h : Heap} {pc : Nat} {Ls : Array Slot} {rest : List Value} {EL : List (String × Nat)}
/-- ldc of a String constant whose text is known -/
theorem own_ldcC (X : Stand p l e R (s.setVm vm0) m args below meth c T locs cells slots) (hx : p.tables.exec = Jvm.exec) (hZ : Z.Warmed39 vm0) {own text : String} {index : Nat} (hown : vm0.findClass own = some m.cls) (w : (Cond.stringLink own index text).before a0 Z = true) (wS : ∀ a ∈ Bundle.stringAtoms, a.before a0 Z = true) (eT : T.heap = h) (hS : s.Since vm0 k0) (hk : k0 ≤ h.size) (hEL : EW Z a0 EL) (hmem : (own, index) ∈ EL) (H : CHv Z EL vm0 h) (xs : List Int32) (z : Int32)
    (ht : (∀ c ∈ text.toList, c.toNat < 256) ∧ text.toList.map (fun c => Value.int (Jvm.Lit.byteI c.toNat.toUInt16)) = xs.map Value.int) (hz : ¬ z < 0) (hzl : z.toNatClampNeg = xs.length) (hd : decode c.code pc = .ok (.ldc index, 2)) (nn : Nat) (hn : 4 * text.toList.length ≤ nn) (hbig : nn ≤ 536870912) (hc : cells + 2 ≤ R.cells) (hl : slots + (nn + 4) ≤ R.slots) {st0 : List Value}
    (g : ∀ (a : Addr) (T' : State) (h' : Heap) (k1 : Nat) (b : Addr), Stand p l e R (s.setVm T'.vm) m args below meth c T' locs (cells + 2) (slots + (nn + 4)) → T'.heap = h' → Ext h h' → s.Since T'.vm k1 → k1 ≤ h'.size → Z.Warmed39 (s.setVm T'.vm).vm → (s.setVm T'.vm).vm.findClass own = some m.cls →
      Exa Z h' a "java/lang/String" → Fld Z h' a "java/lang/String" "coder" "B" (.int 0) → Fld Z h' a "java/lang/String" "value" "[B" (.ref b) → own_Arr Z h' b .byte (xs.map Value.int) → CHr Z EL vm0 h T'.vm h' → own_Go p e below Fin T' (mkF m (pc + 2) Ls (.ref a :: st0))) : own_Go p e below Fin T (mkF m pc Ls st0) := by
  obtain ⟨a, T', h', k1, b, kk, X', e', E', S', k', Z', o', A1, A2, A3, A4, -, -, C', -, -, st⟩ := ldcCH X hx hZ hown w wS eT hS hk hEL hmem H (z := z) ht hz (by simpa using hzl) (g := mkF m pc Ls st0) rfl hd (n := nn) hn hbig hc hl
  exact own_by (fun t kk => st _ kk) (g a T' h' k1 b X' e' E' S' k' Z' o' A1 A2 A3 (own_Arr.of_arv A4 (by simpa using hzl)) C')
/-- it returned, as Q says; String constants may have been resolved, and they bear their texts -/
def own_FinH (Z : State) (EL : List (String × Nat)) (s : State) (Q : Option Value → Heap → List Loc → Prop) (k n : Nat) (o : Outcome) (t : State) : Prop := ∃ v L, o = .returned v ∧ Q v t.heap L ∧ CHr Z EL s.vm s.heap t.vm t.heap ∧ ReturnedEndW s o t L k n
theorem own_startH {f f' : JFrame} {Q : Option Value → Heap → List Loc → Prop} {k n : Nat} (q : f = f') (g : own_Go p e below (own_FinH Z EL s Q k n) T f') : ∃ s₂ o, Steps p.tables e below (T.setTop f) s₂ ∧ s₂.status = .running ∧ Ended s₂ below o ∧ ∃ v L, o = .returned v ∧ Q v s₂.heap L ∧ CHr Z EL s.vm s.heap s₂.vm s₂.heap ∧ ReturnedEndW s o s₂ L k n := by
  subst q; exact g
theorem own_retRh {h00 : Heap} {Q : Option Value → Heap → List Loc → Prop} {k n : Nat} (X : Stand p l e R (s.setVm vm0) m args below meth c T locs cells slots) (hx : p.tables.exec = Jvm.exec) (hS : s.Since vm0 k0) (hk0 : k0 ≤ h.size) (hZ : Z.Warmed39 vm0) (hEL : EW Z a0 EL) (hs0 : s.heap = h00) (HR : CHr Z EL s.vm h00 vm0 h) (hlk : meth.locks = false) {w : Value} {t : FieldType} (hret : meth.sig.returnType = some t) (ht : t.isReference = true) (hw : w.isRef = true) (hn : narrow t w = w) (hd : decode c.code pc = .ok (.areturn, 1)) (eT : T.heap = h) (hk : cells ≤ k) (hs : slots ≤ n) (q : Q (some w) h locs) : own_Go p e below (own_FinH Z EL s Q k n) T (mkF m pc Ls (w :: rest)) := by
  obtain ⟨fs, hr, hrun, hended, hE⟩ := X.leaveW hS (by rw [eT]; exact hk0) (v := some w) (fun h => by rw [hret] at h; cases h) hlk
  have C1 := HR.trans (CHv.at X hZ hEL HR.1)
  refine ⟨_, _, retOut X hx hret hn (Or.inr (Or.inr (Or.inr (Or.inr ⟨rfl, ht, hw⟩)))) hd hr, hrun, hended, _, _, rfl, ?_, ?_, hE.1, hE.2.1, hE.2.2.1, hE.2.2.2.mono hk hs⟩
  · show Q _ T.heap _
    rw [eT]; exact q
  · show CHr Z EL s.vm s.heap T.vm T.heap
    rw [eT, hs0]; exact C1
/-- a static call of a callee that loads String constants -/
theorem own_callSH (X : Stand p l e R (s.setVm vm0) m args below meth c T locs cells slots) (hx : p.tables.exec = Jvm.exec) (hZ : Z.Warmed39 vm0) {own : String} {index : Nat} {y : MethodName} {bytes : ByteArray} {maxL W : Nat} {ret : Option FieldType} {rm : Room} {Qc : Option Value → Heap → List Loc → Prop}
    (hown : vm0.findClass own = some m.cls) (w1 : (Cond.methodLink own index y).before a0 Z = true) (w2 : (Cond.static y).before a0 Z = true) (w3 : (Cond.initialized y.cls).before a0 Z = true) (w4 : (Cond.code y bytes maxL ret).before a0 Z = true)
    (hy : y.cls ≠ "java/lang/invoke/MethodHandle" ∧ y.cls ≠ "java/lang/invoke/VarHandle") (hml : Ls.size = c.maxLocals) {argsL : List Value} {ps : List FieldType} {rt : Option FieldType} (pd : parseMethodDescriptor y.desc = some ⟨ps, rt⟩) (hlen : argsL.length = ps.length)
    (hM : MetFree l y (head1 [Cond.code y bytes maxL ret] rm) (fun a U => a = argsL.toArray ∧ Z.Warmed39 U.vm ∧ U.heap = h ∧ CHv Z EL U.vm h) (fun _ _ _ _ _ => True) (fun _ U o U' => ∃ v L, o = .returned v ∧ Qc v U'.heap L ∧ CHr Z EL U.vm U.heap U'.vm U'.heap ∧ ReturnedEndW U o U' L rm.cells rm.slots))
    (hf : rm.frames + 1 ≤ R.frames) (hl : W + (maxL + 11) + rm.locals ≤ R.locals) (hW : (rest.map fun v => v.category).sum ≤ W) (hc : cells + rm.cells ≤ R.cells) (hs : slots + rm.slots ≤ R.slots) (eT : T.heap = h) {st : List Value} (hst : st = argsL.reverse ++ rest) (hd : decode c.code pc = .ok (.invokestatic index, 3))
    (hS : s.Since vm0 k0) (hk : k0 ≤ h.size) (hEL : EW Z a0 EL) (H : CHv Z EL vm0 h)
    (g : ∀ (v : Option Value) (T' : State) (L : List Loc), Stand p l e R (s.setVm T'.vm) m args below meth c T' (locs ++ L) (cells + rm.cells) (slots + rm.slots) → s.Since T'.vm T'.heap.size → Z.Warmed39 (s.setVm T'.vm).vm → (s.setVm T'.vm).vm.findClass own = some m.cls → Qc v T'.heap L → CHr Z EL vm0 h T'.vm T'.heap → own_Go p e below Fin T' (mkF m (pc + 3) Ls (v.toList ++ rest))) :
    own_Go p e below Fin T (mkF m pc Ls st) := by
  subst hst
  have hZ' : Z.Warmed39 (s.setVm vm0).vm := hZ
  obtain ⟨v, _, ⟨T2, L2, k2, n2⟩, -, X2, S2, g2, ⟨Lc2, hQ2, l2, y2, z2, C2⟩, st2⟩ := callSS X hx (y := y) hown (mvT hZ' w1) (mvT hZ' w2) (mvT hZ' w3) (mvT hZ' w4) hy (backOfSH (s := s) (W := W) hM hZ w4 w3 hf hl hEL H) (g := (mkF m pc Ls (argsL.reverse ++ rest))) rfl hml (argsL := argsL) (rest := rest) (lenOf pd hlen) rfl (by show 2 * 0 + _ ≤ _; omega) hd (fun _ _ => ⟨rfl, eT, hc, hs⟩)
  dsimp only [Pt.U, Pt.locs, Pt.cells, Pt.slots] at X2 S2 g2 l2 y2 z2 st2 hQ2 C2
  subst l2 y2 z2
  obtain ⟨X3, S3, Z3, o3⟩ := rebS hS (Nat.le_trans hk (Nat.le_of_eq (by rw [eT]))) X2 S2 g2 hZ' hown
  exact own_by (fun t kk => st2.trans kk) (g v T2 Lc2 X3 S3 Z3 o3 hQ2 C2)
end OwnLit
section OwnStart
variable {s : State} {args : Array Value} {t : Term} {a : Addr} {ty : FieldType} {cl : Cell}
theorem own_lenI {x : Int32} (h : (Cond.eq (Term.length t) (.int x)).value args s none s [] = some true) (ev : t.eval args s none [] s = some (.ref a)) (A : Arr s s.heap a cl ty) : cl.slots.size < 2 ^ 31 ∧ cl.slots.size.toInt32 = x := by
  have q := own_eqI h
  have ha : s.arrayAt? a = some cl := Arr.fin (Vm.Alike.refl _) A
  by_cases hl : cl.slots.size < 2 ^ 31
  · rw [len_f ev ha hl] at q
    exact ⟨hl, by simpa using q⟩
  · simp [Term.eval, ev, ha, hl] at q
theorem own_elemI {j x : Int32} (h : (Cond.eq (Term.elem t (.int j)) (.int x)).value args s none s [] = some true) (ev : t.eval args s none [] s = some (.ref a)) (A : Arr s s.heap a cl ty) (hj : ¬ j < 0) : cl.slots[j.toNatClampNeg]? = some (.int x) := by
  have q := own_eqI h
  have ha : s.arrayAt? a = some cl := Arr.fin (Vm.Alike.refl _) A
  rwa [elem_f ev rfl ha hj] at q
theorem own_fldI {O nm d : String} {x : Int32} (ev : t.eval args s none [] s = some (.ref a)) (h : (Cond.eq (Term.field t O nm d) (.int x)).value args s none s [] = some true) : Fld s s.heap a O nm d (.int x) :=
  Fld.start ((fld_at ev).symm.trans (own_eqI h))
theorem own_fldR {O nm d : String} {b : Addr} (ev : t.eval args s none [] s = some (.ref a)) (h : (Term.field t O nm d).eval args s none [] s = some (.ref b)) : Fld s s.heap a O nm d (.ref b) :=
  Fld.start ((fld_at ev).symm.trans h)
theorem own_arrS {xs : List Int32} (hf : Fit s) (A : Arr s s.heap a cl ty) (hl : cl.slots.size < 2 ^ 31 ∧ cl.slots.size.toInt32 = xs.length.toInt32) (hx : xs.length < 2 ^ 31) (H : HasL cl 0 (xs.map Value.int)) : own_Arr s s.heap a ty (xs.map Value.int) := by
  have e1 : xs.length.toInt32.toInt = xs.length := len_toInt hx
  have e2 := own_idx e1
  exact own_Arr.of_arv (Arv.start (dv := .int 0) hf A hl.1 hl.2 e2.2 (by rw [e2.1]; simp) H) (by rw [e2.1]; simp)
theorem own_notI {x y : Int32} (ev : t.eval args s none [] s = some (.int x)) (h : (Cond.not (Cond.eq t (.int y))).value args s none s [] = some true) : ¬ x = y := by
  have q : (Term.int y).eval args s none [] s = some (.int y) := rfl
  simpa [Cond.value, ev, q] using h
end OwnStart
section OwnRef
variable {p : Program} {l : Launch} {e : Env} {R : Room} {s : State} {m : MethodId} {args : Array Value} {below : List Frame} {meth : Method} {c : Code} {T T' : State} {locs : List Loc} {cells slots : Nat} {Fin : Outcome → State → Prop} {Z : State} {a0 : Array Value} {h h' : Heap} {pc : Nat} {Ls : Array Slot} {rest : List Value} {ws : List Addr} {a b : Addr} {C : String} {sl : Nat} {v : Value} {ty ty' : FieldType} {vs ws' : List Value}
/-- the array at a takes what the class C takes -/
def own_Ovr (Z : State) (h : Heap) (a : Addr) (C : String) : Prop := ∃ (cl : Cell) (k : Class) (comp : ClassId) (t : FieldType), h[a]? = some cl ∧ Z.vm.classes[cl.cls]? = some k ∧ k.kind = .array comp t ∧ Z.vm.findClass C = some comp
theorem own_Ovr.ext (F : own_Ovr Z h a C) (E : Ext h h') : own_Ovr Z h' a C := by obtain ⟨cl, k, cp, t, h1, r⟩ := F; exact ⟨cl, k, cp, t, E.2 _ _ h1, r⟩
theorem own_Ovr.wr (F : own_Ovr Z h a C) (W : Wr h h' b sl v) : own_Ovr Z h' a C := by
  obtain ⟨cl, k, cp, t, h1, h2, r⟩ := F
  obtain ⟨d, a1, a2, -⟩ := wr_at W h1
  exact ⟨d, k, cp, t, a1, by rw [a2]; exact h2, r⟩
theorem own_Ovr.keep (F : own_Ovr Z h a C) (K : Keep h h' ws) : own_Ovr Z h' a C := by
  obtain ⟨cl, k, cp, t, h1, h2, r⟩ := F
  obtain ⟨d, q, r1, -⟩ := K.2.2 a cl h1
  exact ⟨d, k, cp, t, q, by rw [r1]; exact h2, r⟩
theorem own_Ovr.sto {y : Addr} (F : own_Ovr Z h a C) (I : Ins Z h y C true) : Sto Z h a (.ref y) := by
  obtain ⟨cl, k, comp, t, h1, o1, o2, o3⟩ := F
  obtain ⟨cv, cT, i1, i2, i3⟩ := I
  cases o3.symm.trans i2
  simp only [Bool.and_eq_true, Bool.not_eq_true'] at i3
  obtain ⟨kc, q⟩ := Vm.classAt_of_findClass o3
  obtain ⟨kv, q2⟩ := Vm.classAt_of_assignable i3.2 ⟨kc, q⟩
  exact Or.inr ⟨cl, cv, k, kv, kc, _, _, y, h1, o1, o2, q, rfl, i1, i3.1, q2, i3.2⟩
theorem own_Arr.ne (F : own_Arr Z h a ty vs) (G : own_Arr Z h b ty' ws') (q : ty ≠ ty') : a ≠ b := by
  intro e; subst e
  obtain ⟨c1, A1, -⟩ := F
  obtain ⟨c2, A2, -⟩ := G
  cases A1.1.symm.trans A2.1
  obtain ⟨-, k1, z1, p1, x1⟩ := A1.2.1
  obtain ⟨-, k2, z2, p2, x2⟩ := A2.2.1
  cases z1.symm.trans z2
  have e := x1.symm.trans x2
  injection e with e1 e2
  exact q e2
theorem own_newRA (X : Stand p l e R s m args below meth c T locs cells slots) (hx : p.tables.exec = Jvm.exec) (hZ : Z.Warmed39 s.vm) {own : String} {index : Nat} (hown : s.vm.findClass own = some m.cls) (hC : (FieldType.array ty).toString = C) (w1 : (Cond.classLink own index C).before a0 Z = true) (w2 : (Cond.arrayOver (.array ty)).before a0 Z = true)
    (eT : T.heap = h) (hd : decode c.code pc = .ok (.anewarray index, 3)) {j : Int32} (i cap : Nat) (hj : j.toInt = (i : Int)) (hcap : i ≤ cap) (hb : cap * 8 ≤ 536870912) (hc : cells + 1 ≤ R.cells) (hl : slots + cap ≤ R.slots) {ad : String} (had : "[" ++ C = ad)
    (g : ∀ T' h' (b : Addr), Stand p l e R s m args below meth c T' locs (cells + 1) (slots + cap) → T'.heap = h' → b = h.size → Ext h h' → own_Arr Z h' b (.array ty) (List.replicate i .null) → Exa Z h' b ad → own_Ovr Z h' b C → own_Go p e below Fin T' (mkF m (pc + 3) Ls (.ref b :: rest))) : own_Go p e below Fin T (mkF m pc Ls (.int j :: rest)) := by
  obtain ⟨q1, q2⟩ := own_idx hj
  obtain ⟨T', h', cA, X', e', E', A', Ex', O', st⟩ := newRA X hx hZ hown hC w1 w2 eT (g := mkF m pc Ls (.int j :: rest)) rfl hd rfl q2 (cap := cap) (by rw [q1]; exact hcap) hb hc hl had
  refine own_by (fun t kk => st _ kk) (g T' h' _ X' e' rfl E' (own_Arr.new A' hj) Ex' ?_)
  obtain ⟨k, comp, o1, o2, o3⟩ := O'
  exact ⟨_, k, comp, _, A'.1, o1, o2, o3⟩
theorem own_newRO (X : Stand p l e R s m args below meth c T locs cells slots) (hx : p.tables.exec = Jvm.exec) (hZ : Z.Warmed39 s.vm) {own : String} {index : Nat} (hown : s.vm.findClass own = some m.cls) (w1 : (Cond.classLink own index C).before a0 Z = true) (w2 : (Cond.arrayOver (.object C)).before a0 Z = true)
    (eT : T.heap = h) (hd : decode c.code pc = .ok (.anewarray index, 3)) {j : Int32} (i cap : Nat) (hj : j.toInt = (i : Int)) (hcap : i ≤ cap) (hb : cap * 8 ≤ 536870912) (hc : cells + 1 ≤ R.cells) (hl : slots + cap ≤ R.slots) {ad : String} (had : "[" ++ (FieldType.object C).toString = ad)
    (g : ∀ T' h' (b : Addr), Stand p l e R s m args below meth c T' locs (cells + 1) (slots + cap) → T'.heap = h' → b = h.size → Ext h h' → own_Arr Z h' b (.object C) (List.replicate i .null) → Exa Z h' b ad → own_Ovr Z h' b C → own_Go p e below Fin T' (mkF m (pc + 3) Ls (.ref b :: rest))) : own_Go p e below Fin T (mkF m pc Ls (.int j :: rest)) := by
  obtain ⟨q1, q2⟩ := own_idx hj
  obtain ⟨T', h', cA, X', e', E', A', Ex', O', st⟩ := newRE X hx hZ hown w1 w2 eT (g := mkF m pc Ls (.int j :: rest)) rfl hd rfl q2 (cap := cap) (by rw [q1]; exact hcap) hb hc hl had
  refine own_by (fun t kk => st _ kk) (g T' h' _ X' e' rfl E' (own_Arr.new A' hj) Ex' ?_)
  obtain ⟨k, comp, o1, o2, o3⟩ := O'
  exact ⟨_, k, comp, _, A'.1, o1, o2, o3⟩
theorem own_newPE (X : Stand p l e R s m args below meth c T locs cells slots) (hx : p.tables.exec = Jvm.exec) (hZ : Z.Warmed39 s.vm) {aty : ArrayType} (w : (Cond.arrayClass (newarray.typeOf aty)).before a0 Z = true) (eT : T.heap = h) (hd : decode c.code pc = .ok (.newarray aty, 2)) {j : Int32} (i cap : Nat) (hj : j.toInt = (i : Int)) (hcap : i ≤ cap) (hb : cap * 8 ≤ 536870912) (hc : cells + 1 ≤ R.cells) (hl : slots + cap ≤ R.slots) {ad : String} (had : "[" ++ (newarray.typeOf aty).toString = ad)
    (g : ∀ T' h' (b : Addr), Stand p l e R s m args below meth c T' locs (cells + 1) (slots + cap) → T'.heap = h' → b = h.size → Ext h h' → own_Arr Z h' b (newarray.typeOf aty) (List.replicate i (defaultValue (newarray.typeOf aty))) → Exa Z h' b ad → own_Go p e below Fin T' (mkF m (pc + 2) Ls (.ref b :: rest))) : own_Go p e below Fin T (mkF m pc Ls (.int j :: rest)) := by
  obtain ⟨q1, q2⟩ := own_idx hj
  obtain ⟨T', h', cA, X', e', E', A', Ex', st⟩ := newPE X hx hZ w eT (g := mkF m pc Ls (.int j :: rest)) rfl hd rfl q2 (cap := cap) (by rw [q1]; exact hcap) hb hc hl had
  exact own_by (fun t kk => st _ kk) (g T' h' _ X' e' rfl E' (own_Arr.new A' hj) Ex')
theorem own_aaload (X : Stand p l e R s m args below meth c T locs cells slots) (hx : p.tables.exec = Jvm.exec) (hZ : Z.Warmed39 s.vm) (eT : T.heap = h) (A : own_Arr Z h a ty vs) (hty : ty.isReference = true) {j : Int32} {v : Value} (i : Nat) (hj : j.toInt = (i : Int)) (hv : vs[i]? = some v) (hd : decode c.code pc = .ok (.aaload, 1))
    (g : own_Go p e below Fin T (mkF m (pc + 1) Ls (v :: rest))) : own_Go p e below Fin T (mkF m pc Ls (.int j :: .ref a :: rest)) := by
  obtain ⟨cl, A1, r1, r2⟩ := A
  exact own_by (fun t kk => X.aaload hx (j := j) (v := v) (by rw [eT]; exact A1.1) (State.isArrayOf_alike hZ.alike A1.2.1) hty A1.2.2 (own_inb hj r1 (own_lt_of hv)) (by rw [(own_idx hj).1, r1]; simpa using hv) (g := mkF m pc Ls (.int j :: .ref a :: rest)) rfl rfl hd _ kk) g
theorem own_aastore (X : Stand p l e R s m args below meth c T locs cells slots) (hx : p.tables.exec = Jvm.exec) (hZ : Z.Warmed39 s.vm) (eT : T.heap = h) (A : own_Arr Z h a ty vs) (hty : ty.isReference = true) (F : Sto Z h a v) (hfit : fits ty v = true) {j : Int32} (i : Nat) (hj : j.toInt = (i : Int)) (hi : i < vs.length) (hd : decode c.code pc = .ok (.aastore, 1))
    (g : ∀ T' h', Stand p l e R s m args below meth c T' (locs ++ [⟨a, i⟩]) cells slots → T'.heap = h' → Wr h h' a i v → own_Arr Z h' a ty (vs.set i v) → own_Go p e below Fin T' (mkF m (pc + 1) Ls rest)) : own_Go p e below Fin T (mkF m pc Ls (v :: .int j :: .ref a :: rest)) := by
  have A' := A
  obtain ⟨cl, A1, r1, r2⟩ := A
  obtain ⟨T', h', X', e', W', st⟩ := stR X hx hZ eT A1 (own_inb hj r1 hi) hty F (g := mkF m pc Ls (v :: .int j :: .ref a :: rest)) rfl rfl hd
  rw [(own_idx hj).1] at X' W'
  exact own_by (fun t kk => st _ kk) (g T' h' X' e' W' (A'.set W' hfit))
theorem own_alenK (X : Stand p l e R s m args below meth c T locs cells slots) (hx : p.tables.exec = Jvm.exec) (hZ : Z.Warmed39 s.vm) (eT : T.heap = h) (A : own_Arr Z h a ty vs) {j : Int32} (i : Nat) (hi : vs.length = i) (hj : i.toInt32 = j) (hd : decode c.code pc = .ok (.arraylength, 1))
    (g : own_Go p e below Fin T (mkF m (pc + 1) Ls (.int j :: rest))) : own_Go p e below Fin T (mkF m pc Ls (.ref a :: rest)) := by
  subst hj; subst hi
  exact own_alen X hx hZ eT A hd g
end OwnRef
section OwnSp
variable {p : Program} {l : Launch} {e : Env} {R : Room} {s : State} {vm0 : Vm} {k0 : Nat} {m : MethodId} {args : Array Value} {below : List Frame} {meth : Method} {c : Code} {T T' : State} {locs : List Loc} {cells slots : Nat} {Fin : Outcome → State → Prop} {Z : State} {a0 : Array Value} {h : Heap} {pc : Nat} {Ls : Array Slot} {rest : List Value} {EL : List (String × Nat)}
/-- a constructor that loads String constants -/
theorem own_callCH (X : Stand p l e R (s.setVm vm0) m args below meth c T locs cells slots) (hx : p.tables.exec = Jvm.exec) (hZ : Z.Warmed39 vm0) {own : String} {index : Nat} {y : MethodName} {bytes : ByteArray} {maxL W : Nat} {rm : Room} {Qc : Option Value → Heap → List Loc → Prop} (hy1 : y.name = "<init>")
    (hown : vm0.findClass own = some m.cls) (w1 : (Cond.methodLink own index y).before a0 Z = true) (w2 : (Cond.instanceMethod y).before a0 Z = true) (w3 : (Cond.initialized y.cls).before a0 Z = true) (w4 : (Cond.code y bytes maxL none).before a0 Z = true)
    (hy : y.cls ≠ "java/lang/invoke/MethodHandle" ∧ y.cls ≠ "java/lang/invoke/VarHandle") (hml : Ls.size = c.maxLocals) {a : Addr} {argsL : List Value} {ps : List FieldType} {rt : Option FieldType} (pd : parseMethodDescriptor y.desc = some ⟨ps, rt⟩) (hlen : argsL.length = ps.length)
    (hM : MetFree l y (head1 [Cond.code y bytes maxL none] rm) (fun b U => b = (.ref a :: argsL).toArray ∧ Z.Warmed39 U.vm ∧ U.heap = h ∧ CHv Z EL U.vm h) (fun _ _ _ _ _ => True) (fun _ U o U' => ∃ v L, o = .returned v ∧ Qc v U'.heap L ∧ CHr Z EL U.vm U.heap U'.vm U'.heap ∧ ReturnedEndW U o U' L rm.cells rm.slots))
    (hf : rm.frames + 1 ≤ R.frames) (hl : W + (maxL + 11) + rm.locals ≤ R.locals) (hW : (rest.map fun v => v.category).sum ≤ W) (hc : cells + rm.cells ≤ R.cells) (hs : slots + rm.slots ≤ R.slots) (eT : T.heap = h) {st : List Value} (hst : st = argsL.reverse ++ .ref a :: rest) (hd : decode c.code pc = .ok (.invokespecial index, 3))
    (hS : s.Since vm0 k0) (hk : k0 ≤ h.size) (hEL : EW Z a0 EL) (H : CHv Z EL vm0 h)
    (g : ∀ (v : Option Value) (T' : State) (L : List Loc), Stand p l e R (s.setVm T'.vm) m args below meth c T' (locs ++ L) (cells + rm.cells) (slots + rm.slots) → s.Since T'.vm T'.heap.size → Z.Warmed39 (s.setVm T'.vm).vm → (s.setVm T'.vm).vm.findClass own = some m.cls → Qc v T'.heap L → CHr Z EL vm0 h T'.vm T'.heap → own_Go p e below Fin T' (mkF m (pc + 3) Ls (v.toList ++ rest))) :
    own_Go p e below Fin T (mkF m pc Ls st) := by
  subst hst
  have hZ' : Z.Warmed39 (s.setVm vm0).vm := hZ
  obtain ⟨v, _, ⟨T2, L2, k2, n2⟩, -, X2, S2, g2, ⟨Lc2, hQ2, l2, y2, z2, C2⟩, st2⟩ := X.specialBackS hx (y := y) hy1 hown (mvT hZ' w1) (mvT hZ' w2) (mvT hZ' w4) hy (backOfSH (s := s) (W := W) hM hZ w4 w3 hf hl hEL H) (g := (mkF m pc Ls (argsL.reverse ++ .ref a :: rest))) rfl hml (Steps.refl _) (a := a) (argsL := argsL) (rest := rest) (lenOf pd hlen) rfl (by show 2 * 0 + _ ≤ _; omega) hd (fun _ _ => ⟨rfl, eT, hc, hs⟩)
  dsimp only [Pt.U, Pt.locs, Pt.cells, Pt.slots] at X2 S2 g2 l2 y2 z2 st2 hQ2 C2
  subst l2 y2 z2
  obtain ⟨X3, S3, Z3, o3⟩ := rebS hS (Nat.le_trans hk (Nat.le_of_eq (by rw [eT]))) X2 S2 g2 hZ' hown
  exact own_by (fun t kk => st2.trans kk) (g v T2 Lc2 X3 S3 Z3 o3 hQ2 C2)
theorem own_retVh {h00 : Heap} {Q : Option Value → Heap → List Loc → Prop} {k n : Nat} (X : Stand p l e R (s.setVm vm0) m args below meth c T locs cells slots) (hx : p.tables.exec = Jvm.exec) (hS : s.Since vm0 k0) (hk0 : k0 ≤ h.size) (hZ : Z.Warmed39 vm0) (hEL : EW Z a0 EL) (hs0 : s.heap = h00) (HR : CHr Z EL s.vm h00 vm0 h) (hlk : meth.locks = false) (hret : meth.sig.returnType = none) (hd : decode c.code pc = .ok (.return_, 1)) (eT : T.heap = h) (hk : cells ≤ k) (hs : slots ≤ n) (q : Q none h locs) : own_Go p e below (own_FinH Z EL s Q k n) T (mkF m pc Ls []) := by
  obtain ⟨fs, hr, hrun, hended, hE⟩ := X.leaveW hS (by rw [eT]; exact hk0) (v := none) (fun _ => rfl) hlk
  have C1 := HR.trans (CHv.at X hZ hEL HR.1)
  refine ⟨_, _, X.returnOut hx hret hd hr, hrun, hended, _, _, rfl, ?_, ?_, hE.1, hE.2.1, hE.2.2.1, hE.2.2.2.mono hk hs⟩
  · show Q _ T.heap _
    rw [eT]; exact q
  · show CHr Z EL s.vm s.heap T.vm T.heap
    rw [eT, hs0]; exact C1
theorem own_safeN {vm : Vm} {x : Addr} (hal : Z.vm.Alike vm) (E : Exa Z h x "java/lang/String") (F : Fld Z h x "java/lang/String" "value" "[B" .null) : Safe Z EL vm h x := fun B => by
  have E' := E
  obtain ⟨cell, k, e1, e2, e3, -, -⟩ := E
  obtain ⟨p, -, u, a, -, q, -, G, rfl | rfl⟩ := B
  · have g1 := (show h[q.sa]? = some q.sC from G.ha)
    obtain ⟨cl, cf, kk, i, f, f1, f2, f3, f4, f5, f6, f7⟩ := F
    cases g1.symm.trans f1
    obtain ⟨cS, ⟨⟨-, -, -, ⟨c1, k1, i1, z1, -⟩, -, -, -, v1, -⟩, -⟩, -⟩ := G
    obtain ⟨k3, z3, -⟩ := State.fieldFound?_setVm (s := Z) hal f2
    have e4 := (show (Wst Z vm h).fieldFound? _ _ _ = _ from z3).symm.trans z1
    simp only [Option.some.injEq, Prod.mk.injEq] at e4
    rw [← e4.2.2.2, f7] at v1
    cases v1
  · have g1 := (show h[q.sd]? = some q.SA from G.hd)
    cases g1.symm.trans e1
    obtain ⟨cS, -, -, f, -⟩ := G
    rw [show (Wst Z vm h).vm = vm from rfl, hal.findClass] at f
    obtain ⟨k1, q1, q2⟩ := Vm.findClass_spec f
    obtain ⟨k2, q3, q4⟩ := Vm.findClass_spec e2
    cases q1.symm.trans q3
    exact absurd (q2.symm.trans q4) (by decide)
theorem own_Arr.safe {vm : Vm} {x : Addr} {ty : FieldType} {vs : List Value} (hal : Z.vm.Alike vm) (F : own_Arr Z h x ty vs) (ht : ty ≠ .byte) : Safe Z EL vm h x := by obtain ⟨c, A, -⟩ := F; exact Safe.arr hal A ht
theorem own_aaloadC (X : Stand p l e R s m args below meth c T locs cells slots) (hx : p.tables.exec = Jvm.exec) (hZ : Z.Warmed39 s.vm) (eT : T.heap = h) {a : Addr} {cl : Cell} {ty : FieldType} (A : Arr Z h a cl ty) (hty : ty.isReference = true) {j : Int32} {v : Value} (hin : ¬ (j < 0 ∨ cl.slots.size ≤ j.toNatClampNeg)) (hv : cl.slots[j.toNatClampNeg]? = some v) (hd : decode c.code pc = .ok (.aaload, 1))
    (g : own_Go p e below Fin T (mkF m (pc + 1) Ls (v :: rest))) : own_Go p e below Fin T (mkF m pc Ls (.int j :: .ref a :: rest)) :=
  own_by (fun t kk => X.aaload hx (j := j) (v := v) (by rw [eT]; exact A.1) (State.isArrayOf_alike hZ.alike A.2.1) hty A.2.2 hin hv (g := mkF m pc Ls (.int j :: .ref a :: rest)) rfl rfl hd _ kk) g
end OwnSp
theorem pn_4 : plainName "java/lang/StringUTF16" = true := by first | (simp [plainName, overriddenIn]; done) | decide +kernel
theorem d19_0 : decode jdk_52_method_4_code 0 = .ok (.getstatic 44, 3) := by decide +kernel
theorem d19_3 : decode jdk_52_method_4_code 3 = .ok (.ifCond .ne 25, 3) := by decide +kernel
theorem d19_28 : decode jdk_52_method_4_code 28 = .ok (.iload_n 1, 1) := by decide +kernel
theorem d19_29 : decode jdk_52_method_4_code 29 = .ok (.iconst 1, 1) := by decide +kernel
theorem d19_30 : decode jdk_52_method_4_code 30 = .ok (.ishl, 1) := by decide +kernel
theorem d19_31 : decode jdk_52_method_4_code 31 = .ok (.istore_n 1, 1) := by decide +kernel
theorem d19_32 : decode jdk_52_method_4_code 32 = .ok (.aload_n 0, 1) := by decide +kernel
theorem d19_33 : decode jdk_52_method_4_code 33 = .ok (.iload_n 1, 1) := by decide +kernel
theorem d19_34 : decode jdk_52_method_4_code 34 = .ok (.iinc 1 1, 3) := by decide +kernel
theorem d19_37 : decode jdk_52_method_4_code 37 = .ok (.iload_n 2, 1) := by decide +kernel
theorem d19_38 : decode jdk_52_method_4_code 38 = .ok (.getstatic 59, 3) := by decide +kernel
theorem d19_41 : decode jdk_52_method_4_code 41 = .ok (.ishr, 1) := by decide +kernel
theorem d19_42 : decode jdk_52_method_4_code 42 = .ok (.i2b, 1) := by decide +kernel
theorem d19_43 : decode jdk_52_method_4_code 43 = .ok (.bastore, 1) := by decide +kernel
theorem d19_44 : decode jdk_52_method_4_code 44 = .ok (.aload_n 0, 1) := by decide +kernel
theorem d19_45 : decode jdk_52_method_4_code 45 = .ok (.iload_n 1, 1) := by decide +kernel
theorem d19_46 : decode jdk_52_method_4_code 46 = .ok (.iload_n 2, 1) := by decide +kernel
theorem d19_47 : decode jdk_52_method_4_code 47 = .ok (.getstatic 63, 3) := by decide +kernel
theorem d19_50 : decode jdk_52_method_4_code 50 = .ok (.ishr, 1) := by decide +kernel
theorem d19_51 : decode jdk_52_method_4_code 51 = .ok (.i2b, 1) := by decide +kernel
theorem d19_52 : decode jdk_52_method_4_code 52 = .ok (.bastore, 1) := by decide +kernel
theorem d19_53 : decode jdk_52_method_4_code 53 = .ok (.return_, 1) := by decide +kernel
theorem d20_0 : decode jdk_52_method_5_code 0 = .ok (.getstatic 44, 3) := by decide +kernel
theorem d20_3 : decode jdk_52_method_5_code 3 = .ok (.ifCond .ne 25, 3) := by decide +kernel
theorem d20_28 : decode jdk_52_method_5_code 28 = .ok (.iload_n 1, 1) := by decide +kernel
theorem d20_29 : decode jdk_52_method_5_code 29 = .ok (.iconst 1, 1) := by decide +kernel
theorem d20_30 : decode jdk_52_method_5_code 30 = .ok (.ishl, 1) := by decide +kernel
theorem d20_31 : decode jdk_52_method_5_code 31 = .ok (.istore_n 1, 1) := by decide +kernel
theorem d20_32 : decode jdk_52_method_5_code 32 = .ok (.aload_n 0, 1) := by decide +kernel
theorem d20_33 : decode jdk_52_method_5_code 33 = .ok (.iload_n 1, 1) := by decide +kernel
theorem d20_34 : decode jdk_52_method_5_code 34 = .ok (.iinc 1 1, 3) := by decide +kernel
theorem d20_37 : decode jdk_52_method_5_code 37 = .ok (.baload, 1) := by decide +kernel
theorem d20_38 : decode jdk_52_method_5_code 38 = .ok (.sipush 255, 3) := by decide +kernel
theorem d20_41 : decode jdk_52_method_5_code 41 = .ok (.iand, 1) := by decide +kernel
theorem d20_42 : decode jdk_52_method_5_code 42 = .ok (.getstatic 59, 3) := by decide +kernel
theorem d20_45 : decode jdk_52_method_5_code 45 = .ok (.ishl, 1) := by decide +kernel
theorem d20_46 : decode jdk_52_method_5_code 46 = .ok (.aload_n 0, 1) := by decide +kernel
theorem d20_47 : decode jdk_52_method_5_code 47 = .ok (.iload_n 1, 1) := by decide +kernel
theorem d20_48 : decode jdk_52_method_5_code 48 = .ok (.baload, 1) := by decide +kernel
theorem d20_49 : decode jdk_52_method_5_code 49 = .ok (.sipush 255, 3) := by decide +kernel
theorem d20_52 : decode jdk_52_method_5_code 52 = .ok (.iand, 1) := by decide +kernel
theorem d20_53 : decode jdk_52_method_5_code 53 = .ok (.getstatic 63, 3) := by decide +kernel
theorem d20_56 : decode jdk_52_method_5_code 56 = .ok (.ishl, 1) := by decide +kernel
theorem d20_57 : decode jdk_52_method_5_code 57 = .ok (.ior, 1) := by decide +kernel
theorem d20_58 : decode jdk_52_method_5_code 58 = .ok (.i2c, 1) := by decide +kernel
theorem d20_59 : decode jdk_52_method_5_code 59 = .ok (.ireturn, 1) := by decide +kernel
theorem d18_0 : decode jdk_52_method_3_code 0 = .ok (.iload_n 0, 1) := by decide +kernel
theorem d18_1 : decode jdk_52_method_3_code 1 = .ok (.ifCond .ge 11, 3) := by decide +kernel
theorem d18_12 : decode jdk_52_method_3_code 12 = .ok (.iload_n 0, 1) := by decide +kernel
theorem d18_13 : decode jdk_52_method_3_code 13 = .ok (.ldc 20, 2) := by decide +kernel
theorem d18_15 : decode jdk_52_method_3_code 15 = .ok (.if_icmp .lt 40, 3) := by decide +kernel
theorem d18_55 : decode jdk_52_method_3_code 55 = .ok (.iload_n 0, 1) := by decide +kernel
theorem d18_56 : decode jdk_52_method_3_code 56 = .ok (.iconst 1, 1) := by decide +kernel
theorem d18_57 : decode jdk_52_method_3_code 57 = .ok (.ishl, 1) := by decide +kernel
theorem d18_58 : decode jdk_52_method_3_code 58 = .ok (.ireturn, 1) := by decide +kernel
theorem d17_0 : decode jdk_52_method_2_code 0 = .ok (.iload_n 0, 1) := by decide +kernel
theorem d17_1 : decode jdk_52_method_2_code 1 = .ok (.invokestatic 11, 3) := by decide +kernel
theorem pd_14 : parseMethodDescriptor "(I)I" = some ⟨[.int], some .int⟩ := by decide +kernel
theorem d17_4 : decode jdk_52_method_2_code 4 = .ok (.newarray .byte, 2) := by decide +kernel
theorem d17_6 : decode jdk_52_method_2_code 6 = .ok (.areturn, 1) := by decide +kernel
theorem d16_0 : decode jdk_52_method_14_code 0 = .ok (.iload_n 2, 1) := by decide +kernel
theorem d16_1 : decode jdk_52_method_14_code 1 = .ok (.invokestatic 107, 3) := by decide +kernel
theorem pd_13 : parseMethodDescriptor "(I)[B" = some ⟨[.int], some (.array .byte)⟩ := by decide +kernel
theorem d16_4 : decode jdk_52_method_14_code 4 = .ok (.astore_n 3, 1) := by decide +kernel
theorem d16_5 : decode jdk_52_method_14_code 5 = .ok (.iconst 0, 1) := by decide +kernel
theorem d16_6 : decode jdk_52_method_14_code 6 = .ok (.istore 4, 2) := by decide +kernel
theorem d16_8 : decode jdk_52_method_14_code 8 = .ok (.iload 4, 2) := by decide +kernel
theorem d16_10 : decode jdk_52_method_14_code 10 = .ok (.iload_n 2, 1) := by decide +kernel
theorem d16_11 : decode jdk_52_method_14_code 11 = .ok (.if_icmp .ge 21, 3) := by decide +kernel
theorem d16_14 : decode jdk_52_method_14_code 14 = .ok (.aload_n 3, 1) := by decide +kernel
theorem d16_15 : decode jdk_52_method_14_code 15 = .ok (.iload 4, 2) := by decide +kernel
theorem d16_17 : decode jdk_52_method_14_code 17 = .ok (.aload_n 0, 1) := by decide +kernel
theorem d16_18 : decode jdk_52_method_14_code 18 = .ok (.iload_n 1, 1) := by decide +kernel
theorem d16_19 : decode jdk_52_method_14_code 19 = .ok (.caload, 1) := by decide +kernel
theorem d16_20 : decode jdk_52_method_14_code 20 = .ok (.invokestatic 111, 3) := by decide +kernel
theorem pd_15 : parseMethodDescriptor "([BII)V" = some ⟨[(.array .byte), .int, .int], none⟩ := by decide +kernel
theorem d16_23 : decode jdk_52_method_14_code 23 = .ok (.iinc 1 1, 3) := by decide +kernel
theorem d16_26 : decode jdk_52_method_14_code 26 = .ok (.iinc 4 1, 3) := by decide +kernel
theorem d16_29 : decode jdk_52_method_14_code 29 = .ok (.goto (-21), 3) := by decide +kernel
theorem d16_32 : decode jdk_52_method_14_code 32 = .ok (.aload_n 3, 1) := by decide +kernel
theorem d16_33 : decode jdk_52_method_14_code 33 = .ok (.areturn, 1) := by decide +kernel
theorem d5_0 : decode jdk_52_method_21_code 0 = .ok (.iconst 0, 1) := by decide +kernel
theorem d5_1 : decode jdk_52_method_21_code 1 = .ok (.istore 5, 2) := by decide +kernel
theorem d5_3 : decode jdk_52_method_21_code 3 = .ok (.iload 5, 2) := by decide +kernel
theorem d5_5 : decode jdk_52_method_21_code 5 = .ok (.iload 4, 2) := by decide +kernel
theorem d5_7 : decode jdk_52_method_21_code 7 = .ok (.if_icmp .ge 37, 3) := by decide +kernel
theorem d5_10 : decode jdk_52_method_21_code 10 = .ok (.aload_n 0, 1) := by decide +kernel
theorem d5_11 : decode jdk_52_method_21_code 11 = .ok (.iload_n 1, 1) := by decide +kernel
theorem d5_12 : decode jdk_52_method_21_code 12 = .ok (.caload, 1) := by decide +kernel
theorem d5_13 : decode jdk_52_method_21_code 13 = .ok (.istore 6, 2) := by decide +kernel
theorem d5_15 : decode jdk_52_method_21_code 15 = .ok (.iload 6, 2) := by decide +kernel
theorem d5_17 : decode jdk_52_method_21_code 17 = .ok (.sipush 255, 3) := by decide +kernel
theorem d5_20 : decode jdk_52_method_21_code 20 = .ok (.if_icmp .le 6, 3) := by decide +kernel
theorem d5_26 : decode jdk_52_method_21_code 26 = .ok (.aload_n 2, 1) := by decide +kernel
theorem d5_27 : decode jdk_52_method_21_code 27 = .ok (.iload_n 3, 1) := by decide +kernel
theorem d5_28 : decode jdk_52_method_21_code 28 = .ok (.iload 6, 2) := by decide +kernel
theorem d5_30 : decode jdk_52_method_21_code 30 = .ok (.i2b, 1) := by decide +kernel
theorem d5_31 : decode jdk_52_method_21_code 31 = .ok (.bastore, 1) := by decide +kernel
theorem d5_32 : decode jdk_52_method_21_code 32 = .ok (.iinc 1 1, 3) := by decide +kernel
theorem d5_35 : decode jdk_52_method_21_code 35 = .ok (.iinc 3 1, 3) := by decide +kernel
theorem d5_38 : decode jdk_52_method_21_code 38 = .ok (.iinc 5 1, 3) := by decide +kernel
theorem d5_41 : decode jdk_52_method_21_code 41 = .ok (.goto (-38), 3) := by decide +kernel
theorem d5_44 : decode jdk_52_method_21_code 44 = .ok (.iload 4, 2) := by decide +kernel
theorem d5_46 : decode jdk_52_method_21_code 46 = .ok (.ireturn, 1) := by decide +kernel
theorem d5_23 : decode jdk_52_method_21_code 23 = .ok (.iload 5, 2) := by decide +kernel
theorem d5_25 : decode jdk_52_method_21_code 25 = .ok (.ireturn, 1) := by decide +kernel
theorem d4_0 : decode jdk_52_method_16_code 0 = .ok (.iload_n 2, 1) := by decide +kernel
theorem d4_1 : decode jdk_52_method_16_code 1 = .ok (.newarray .byte, 2) := by decide +kernel
theorem d4_3 : decode jdk_52_method_16_code 3 = .ok (.astore_n 3, 1) := by decide +kernel
theorem d4_4 : decode jdk_52_method_16_code 4 = .ok (.aload_n 0, 1) := by decide +kernel
theorem d4_5 : decode jdk_52_method_16_code 5 = .ok (.iload_n 1, 1) := by decide +kernel
theorem d4_6 : decode jdk_52_method_16_code 6 = .ok (.aload_n 3, 1) := by decide +kernel
theorem d4_7 : decode jdk_52_method_16_code 7 = .ok (.iconst 0, 1) := by decide +kernel
theorem d4_8 : decode jdk_52_method_16_code 8 = .ok (.iload_n 2, 1) := by decide +kernel
theorem d4_9 : decode jdk_52_method_16_code 9 = .ok (.invokestatic 115, 3) := by decide +kernel
theorem pd_4 : parseMethodDescriptor "([CI[BII)I" = some ⟨[(.array .char), .int, (.array .byte), .int, .int], some .int⟩ := by decide +kernel
theorem d4_12 : decode jdk_52_method_16_code 12 = .ok (.istore 4, 2) := by decide +kernel
theorem d4_14 : decode jdk_52_method_16_code 14 = .ok (.iload 4, 2) := by decide +kernel
theorem d4_16 : decode jdk_52_method_16_code 16 = .ok (.iload_n 2, 1) := by decide +kernel
theorem d4_17 : decode jdk_52_method_16_code 17 = .ok (.if_icmp .eq 40, 3) := by decide +kernel
theorem d4_57 : decode jdk_52_method_16_code 57 = .ok (.aload_n 3, 1) := by decide +kernel
theorem d4_58 : decode jdk_52_method_16_code 58 = .ok (.areturn, 1) := by decide +kernel
theorem d4_20 : decode jdk_52_method_16_code 20 = .ok (.aload_n 0, 1) := by decide +kernel
theorem d4_21 : decode jdk_52_method_16_code 21 = .ok (.iload_n 1, 1) := by decide +kernel
theorem d4_22 : decode jdk_52_method_16_code 22 = .ok (.iload_n 2, 1) := by decide +kernel
theorem d4_23 : decode jdk_52_method_16_code 23 = .ok (.invokestatic 119, 3) := by decide +kernel
theorem pd_3 : parseMethodDescriptor "([CII)[B" = some ⟨[(.array .char), .int, .int], some (.array .byte)⟩ := by decide +kernel
theorem d4_26 : decode jdk_52_method_16_code 26 = .ok (.astore 5, 2) := by decide +kernel
theorem d4_28 : decode jdk_52_method_16_code 28 = .ok (.aload 5, 2) := by decide +kernel
theorem d4_30 : decode jdk_52_method_16_code 30 = .ok (.iload 4, 2) := by decide +kernel
theorem d4_32 : decode jdk_52_method_16_code 32 = .ok (.invokestatic 71, 3) := by decide +kernel
theorem pd_16 : parseMethodDescriptor "([BI)C" = some ⟨[(.array .byte), .int], some .char⟩ := by decide +kernel
theorem d4_35 : decode jdk_52_method_16_code 35 = .ok (.sipush 255, 3) := by decide +kernel
theorem d4_38 : decode jdk_52_method_16_code 38 = .ok (.if_icmp .gt 16, 3) := by decide +kernel
theorem d4_54 : decode jdk_52_method_16_code 54 = .ok (.aload 5, 2) := by decide +kernel
theorem d4_56 : decode jdk_52_method_16_code 56 = .ok (.areturn, 1) := by decide +kernel
theorem d6_0 : decode jdk_52_method_15_code 0 = .ok (.iload_n 1, 1) := by decide +kernel
theorem d6_1 : decode jdk_52_method_15_code 1 = .ok (.aload_n 0, 1) := by decide +kernel
theorem d6_2 : decode jdk_52_method_15_code 2 = .ok (.arraylength, 1) := by decide +kernel
theorem d6_3 : decode jdk_52_method_15_code 3 = .ok (.isub, 1) := by decide +kernel
theorem d6_4 : decode jdk_52_method_15_code 4 = .ok (.bipush 31, 2) := by decide +kernel
theorem d6_6 : decode jdk_52_method_15_code 6 = .ok (.iushr, 1) := by decide +kernel
theorem d6_7 : decode jdk_52_method_15_code 7 = .ok (.i2b, 1) := by decide +kernel
theorem d6_8 : decode jdk_52_method_15_code 8 = .ok (.ireturn, 1) := by decide +kernel
theorem pn_1 : plainName "java/lang/String" = true := by first | (simp [plainName, overriddenIn]; done) | decide +kernel
theorem d2_0 : decode jdk_42_method_149_code 0 = .ok (.aload_n 0, 1) := by decide +kernel
theorem d2_1 : decode jdk_42_method_149_code 1 = .ok (.invokespecial 1, 3) := by decide +kernel
theorem d2_4 : decode jdk_42_method_149_code 4 = .ok (.iload_n 3, 1) := by decide +kernel
theorem d2_5 : decode jdk_42_method_149_code 5 = .ok (.ifCond .ne 22, 3) := by decide +kernel
theorem d2_27 : decode jdk_42_method_149_code 27 = .ok (.getstatic 38, 3) := by decide +kernel
theorem d2_30 : decode jdk_42_method_149_code 30 = .ok (.ifCond .eq 28, 3) := by decide +kernel
theorem d2_33 : decode jdk_42_method_149_code 33 = .ok (.aload_n 1, 1) := by decide +kernel
theorem d2_34 : decode jdk_42_method_149_code 34 = .ok (.iload_n 2, 1) := by decide +kernel
theorem d2_35 : decode jdk_42_method_149_code 35 = .ok (.iload_n 3, 1) := by decide +kernel
theorem d2_36 : decode jdk_42_method_149_code 36 = .ok (.invokestatic 177, 3) := by decide +kernel
theorem d2_39 : decode jdk_42_method_149_code 39 = .ok (.astore 5, 2) := by decide +kernel
theorem d2_41 : decode jdk_42_method_149_code 41 = .ok (.aload_n 0, 1) := by decide +kernel
theorem d2_42 : decode jdk_42_method_149_code 42 = .ok (.aload 5, 2) := by decide +kernel
theorem d2_44 : decode jdk_42_method_149_code 44 = .ok (.iload_n 3, 1) := by decide +kernel
theorem d2_45 : decode jdk_42_method_149_code 45 = .ok (.invokestatic 47, 3) := by decide +kernel
theorem pd_5 : parseMethodDescriptor "([BI)B" = some ⟨[(.array .byte), .int], some .byte⟩ := by decide +kernel
theorem d2_48 : decode jdk_42_method_149_code 48 = .ok (.putfield 15, 3) := by decide +kernel
theorem d2_51 : decode jdk_42_method_149_code 51 = .ok (.aload_n 0, 1) := by decide +kernel
theorem d2_52 : decode jdk_42_method_149_code 52 = .ok (.aload 5, 2) := by decide +kernel
theorem d2_54 : decode jdk_42_method_149_code 54 = .ok (.putfield 9, 3) := by decide +kernel
theorem d2_57 : decode jdk_42_method_149_code 57 = .ok (.return_, 1) := by decide +kernel
theorem d1_0 : decode jdk_42_method_3_code 0 = .ok (.aload_n 0, 1) := by decide +kernel
theorem d1_1 : decode jdk_42_method_3_code 1 = .ok (.aload_n 1, 1) := by decide +kernel
theorem d1_2 : decode jdk_42_method_3_code 2 = .ok (.iconst 0, 1) := by decide +kernel
theorem d1_3 : decode jdk_42_method_3_code 3 = .ok (.aload_n 1, 1) := by decide +kernel
theorem d1_4 : decode jdk_42_method_3_code 4 = .ok (.arraylength, 1) := by decide +kernel
theorem d1_5 : decode jdk_42_method_3_code 5 = .ok (.aconst_null, 1) := by decide +kernel
theorem d1_6 : decode jdk_42_method_3_code 6 = .ok (.invokespecial 27, 3) := by decide +kernel
theorem pd_1 : parseMethodDescriptor "([CIILjava/lang/Void;)V" = some ⟨[(.array .char), .int, .int, (.object "java/lang/Void")], none⟩ := by decide +kernel
theorem d1_9 : decode jdk_42_method_3_code 9 = .ok (.return_, 1) := by decide +kernel
theorem pn_13 : plainName "java/lang/StringLatin1" = true := by first | (simp [plainName, overriddenIn]; done) | decide +kernel
theorem d13_0 : decode jdk_43_method_3_code 0 = .ok (.iload_n 0, 1) := by decide +kernel
theorem d13_1 : decode jdk_43_method_3_code 1 = .ok (.sipush 255, 3) := by decide +kernel
theorem d13_4 : decode jdk_43_method_3_code 4 = .ok (.if_icmp .gt 7, 3) := by decide +kernel
theorem d13_11 : decode jdk_43_method_3_code 11 = .ok (.iconst 0, 1) := by decide +kernel
theorem d13_12 : decode jdk_43_method_3_code 12 = .ok (.ireturn, 1) := by decide +kernel
theorem d13_7 : decode jdk_43_method_3_code 7 = .ok (.iconst 1, 1) := by decide +kernel
theorem d13_8 : decode jdk_43_method_3_code 8 = .ok (.goto 4, 3) := by decide +kernel
theorem d14_0 : decode jdk_43_method_46_code 0 = .ok (.iconst 1, 1) := by decide +kernel
theorem d14_1 : decode jdk_43_method_46_code 1 = .ok (.newarray .byte, 2) := by decide +kernel
theorem d14_3 : decode jdk_43_method_46_code 3 = .ok (.dup, 1) := by decide +kernel
theorem d14_4 : decode jdk_43_method_46_code 4 = .ok (.iconst 0, 1) := by decide +kernel
theorem d14_5 : decode jdk_43_method_46_code 5 = .ok (.iload_n 0, 1) := by decide +kernel
theorem d14_6 : decode jdk_43_method_46_code 6 = .ok (.i2b, 1) := by decide +kernel
theorem d14_7 : decode jdk_43_method_46_code 7 = .ok (.bastore, 1) := by decide +kernel
theorem d14_8 : decode jdk_43_method_46_code 8 = .ok (.areturn, 1) := by decide +kernel
theorem d21_0 : decode jdk_52_method_24_code 0 = .ok (.iconst 2, 1) := by decide +kernel
theorem d21_1 : decode jdk_52_method_24_code 1 = .ok (.newarray .byte, 2) := by decide +kernel
theorem d21_3 : decode jdk_52_method_24_code 3 = .ok (.astore_n 1, 1) := by decide +kernel
theorem d21_4 : decode jdk_52_method_24_code 4 = .ok (.aload_n 1, 1) := by decide +kernel
theorem d21_5 : decode jdk_52_method_24_code 5 = .ok (.iconst 0, 1) := by decide +kernel
theorem d21_6 : decode jdk_52_method_24_code 6 = .ok (.iload_n 0, 1) := by decide +kernel
theorem d21_7 : decode jdk_52_method_24_code 7 = .ok (.invokestatic 111, 3) := by decide +kernel
theorem d21_10 : decode jdk_52_method_24_code 10 = .ok (.aload_n 1, 1) := by decide +kernel
theorem d21_11 : decode jdk_52_method_24_code 11 = .ok (.areturn, 1) := by decide +kernel
theorem d15_0 : decode jdk_42_method_151_code 0 = .ok (.aload_n 0, 1) := by decide +kernel
theorem d15_1 : decode jdk_42_method_151_code 1 = .ok (.invokespecial 1, 3) := by decide +kernel
theorem d15_4 : decode jdk_42_method_151_code 4 = .ok (.aload_n 0, 1) := by decide +kernel
theorem d15_5 : decode jdk_42_method_151_code 5 = .ok (.aload_n 1, 1) := by decide +kernel
theorem d15_6 : decode jdk_42_method_151_code 6 = .ok (.putfield 9, 3) := by decide +kernel
theorem d15_9 : decode jdk_42_method_151_code 9 = .ok (.aload_n 0, 1) := by decide +kernel
theorem d15_10 : decode jdk_42_method_151_code 10 = .ok (.iload_n 2, 1) := by decide +kernel
theorem d15_11 : decode jdk_42_method_151_code 11 = .ok (.putfield 15, 3) := by decide +kernel
theorem d15_14 : decode jdk_42_method_151_code 14 = .ok (.return_, 1) := by decide +kernel
theorem d12_0 : decode jdk_42_method_139_code 0 = .ok (.getstatic 38, 3) := by decide +kernel
theorem d12_3 : decode jdk_42_method_139_code 3 = .ok (.ifCond .eq 23, 3) := by decide +kernel
theorem d12_6 : decode jdk_42_method_139_code 6 = .ok (.iload_n 0, 1) := by decide +kernel
theorem d12_7 : decode jdk_42_method_139_code 7 = .ok (.invokestatic 1015, 3) := by decide +kernel
theorem pd_10 : parseMethodDescriptor "(C)Z" = some ⟨[.char], some .boolean⟩ := by decide +kernel
theorem d12_10 : decode jdk_42_method_139_code 10 = .ok (.ifCond .eq 16, 3) := by decide +kernel
theorem d12_26 : decode jdk_42_method_139_code 26 = .ok (.new 10, 3) := by decide +kernel
theorem d12_29 : decode jdk_42_method_139_code 29 = .ok (.dup, 1) := by decide +kernel
theorem d12_30 : decode jdk_42_method_139_code 30 = .ok (.iload_n 0, 1) := by decide +kernel
theorem d12_31 : decode jdk_42_method_139_code 31 = .ok (.invokestatic 1021, 3) := by decide +kernel
theorem pd_11 : parseMethodDescriptor "(C)[B" = some ⟨[.char], some (.array .byte)⟩ := by decide +kernel
theorem d12_34 : decode jdk_42_method_139_code 34 = .ok (.iconst 1, 1) := by decide +kernel
theorem d12_35 : decode jdk_42_method_139_code 35 = .ok (.invokespecial 209, 3) := by decide +kernel
theorem pd_12 : parseMethodDescriptor "([BB)V" = some ⟨[(.array .byte), .byte], none⟩ := by decide +kernel
theorem d12_38 : decode jdk_42_method_139_code 38 = .ok (.areturn, 1) := by decide +kernel
theorem d12_13 : decode jdk_42_method_139_code 13 = .ok (.new 10, 3) := by decide +kernel
theorem d12_16 : decode jdk_42_method_139_code 16 = .ok (.dup, 1) := by decide +kernel
theorem d12_17 : decode jdk_42_method_139_code 17 = .ok (.iload_n 0, 1) := by decide +kernel
theorem d12_18 : decode jdk_42_method_139_code 18 = .ok (.invokestatic 1018, 3) := by decide +kernel
theorem d12_21 : decode jdk_42_method_139_code 21 = .ok (.iconst 0, 1) := by decide +kernel
theorem d12_22 : decode jdk_42_method_139_code 22 = .ok (.invokespecial 209, 3) := by decide +kernel
theorem d12_25 : decode jdk_42_method_139_code 25 = .ok (.areturn, 1) := by decide +kernel
theorem d11_0 : decode jdk_42_method_152_code 0 = .ok (.getstatic 38, 3) := by decide +kernel
theorem d11_3 : decode jdk_42_method_152_code 3 = .ok (.ifCond .eq 10, 3) := by decide +kernel
theorem d11_6 : decode jdk_42_method_152_code 6 = .ok (.aload_n 0, 1) := by decide +kernel
theorem d11_7 : decode jdk_42_method_152_code 7 = .ok (.getfield 15, 3) := by decide +kernel
theorem d11_10 : decode jdk_42_method_152_code 10 = .ok (.goto 4, 3) := by decide +kernel
theorem d11_14 : decode jdk_42_method_152_code 14 = .ok (.ireturn, 1) := by decide +kernel
theorem d10_0 : decode jdk_42_method_54_code 0 = .ok (.aload_n 0, 1) := by decide +kernel
theorem d10_1 : decode jdk_42_method_54_code 1 = .ok (.getfield 9, 3) := by decide +kernel
theorem d10_4 : decode jdk_42_method_54_code 4 = .ok (.arraylength, 1) := by decide +kernel
theorem d10_5 : decode jdk_42_method_54_code 5 = .ok (.aload_n 0, 1) := by decide +kernel
theorem d10_6 : decode jdk_42_method_54_code 6 = .ok (.invokevirtual 335, 3) := by decide +kernel
theorem pd_8 : parseMethodDescriptor "()B" = some ⟨[], some .byte⟩ := by decide +kernel
theorem d10_9 : decode jdk_42_method_54_code 9 = .ok (.ishr, 1) := by decide +kernel
theorem d10_10 : decode jdk_42_method_54_code 10 = .ok (.ireturn, 1) := by decide +kernel
theorem pn_8 : plainName "java/lang/Record" = true := by first | (simp [plainName, overriddenIn]; done) | decide +kernel
theorem d8_0 : decode jdk_30_method_1_code 0 = .ok (.aload_n 0, 1) := by decide +kernel
theorem d8_1 : decode jdk_30_method_1_code 1 = .ok (.invokespecial 1, 3) := by decide +kernel
theorem d8_4 : decode jdk_30_method_1_code 4 = .ok (.return_, 1) := by decide +kernel
theorem pn_7 : plainName "com/example/restate/restate/Citation" = true := by first | (simp [plainName, overriddenIn]; done) | decide +kernel
theorem d7_0 : decode prog_8_method_1_code 0 = .ok (.aload_n 0, 1) := by decide +kernel
theorem d7_1 : decode prog_8_method_1_code 1 = .ok (.invokespecial 3, 3) := by decide +kernel
theorem pd_2 : parseMethodDescriptor "()V" = some ⟨[], none⟩ := by decide +kernel
theorem d7_4 : decode prog_8_method_1_code 4 = .ok (.aload_n 0, 1) := by decide +kernel
theorem d7_5 : decode prog_8_method_1_code 5 = .ok (.iload_n 1, 1) := by decide +kernel
theorem d7_6 : decode prog_8_method_1_code 6 = .ok (.putfield 9, 3) := by decide +kernel
theorem d7_9 : decode prog_8_method_1_code 9 = .ok (.aload_n 0, 1) := by decide +kernel
theorem d7_10 : decode prog_8_method_1_code 10 = .ok (.iload_n 2, 1) := by decide +kernel
theorem d7_11 : decode prog_8_method_1_code 11 = .ok (.putfield 13, 3) := by decide +kernel
theorem d7_14 : decode prog_8_method_1_code 14 = .ok (.aload_n 0, 1) := by decide +kernel
theorem d7_15 : decode prog_8_method_1_code 15 = .ok (.aload_n 3, 1) := by decide +kernel
theorem d7_16 : decode prog_8_method_1_code 16 = .ok (.putfield 16, 3) := by decide +kernel
theorem d7_19 : decode prog_8_method_1_code 19 = .ok (.aload_n 0, 1) := by decide +kernel
theorem d7_20 : decode prog_8_method_1_code 20 = .ok (.aload 4, 2) := by decide +kernel
theorem d7_22 : decode prog_8_method_1_code 22 = .ok (.putfield 20, 3) := by decide +kernel
theorem d7_25 : decode prog_8_method_1_code 25 = .ok (.return_, 1) := by decide +kernel
theorem d9_0 : decode prog_8_method_3_code 0 = .ok (.aload_n 0, 1) := by decide +kernel
theorem d9_1 : decode prog_8_method_3_code 1 = .ok (.getfield 13, 3) := by decide +kernel
theorem d9_4 : decode prog_8_method_3_code 4 = .ok (.aload_n 0, 1) := by decide +kernel
theorem d9_5 : decode prog_8_method_3_code 5 = .ok (.getfield 16, 3) := by decide +kernel
theorem d9_8 : decode prog_8_method_3_code 8 = .ok (.invokevirtual 70, 3) := by decide +kernel
theorem pd_7 : parseMethodDescriptor "()I" = some ⟨[], some .int⟩ := by decide +kernel
theorem d9_11 : decode prog_8_method_3_code 11 = .ok (.iadd, 1) := by decide +kernel
theorem d9_12 : decode prog_8_method_3_code 12 = .ok (.ireturn, 1) := by decide +kernel
theorem pn_0 : plainName "com/example/restate/restate/CitationEndPinLaw" = true := by first | (simp [plainName, overriddenIn]; done) | decide +kernel
theorem pd_6 : parseMethodDescriptor "(IILjava/lang/String;Lcom/example/restate/restate/Citation$Reading;)V" = some ⟨[.int, .int, (.object "java/lang/String"), (.object "com/example/restate/restate/Citation$Reading")], none⟩ := by decide +kernel
theorem pd_9 : parseMethodDescriptor "(C)Ljava/lang/String;" = some ⟨[.char], some (.object "java/lang/String")⟩ := by decide +kernel
theorem pd_0 : parseMethodDescriptor "([C)V" = some ⟨[(.array .char)], none⟩ := by decide +kernel
def own_Ok (c : Int32) : Prop := ¬ c < 0 ∧ ¬ (65535 : Int32) < c
theorem own_nar {c : Int32} (h : own_Ok c) : nar .char c = c := by
  obtain ⟨h1, h2⟩ := h
  have k0 : (0 : Int32).toInt = 0 := by decide
  have k2 : (65535 : Int32).toInt = 65535 := by decide
  rw [Int32.lt_iff_toInt_lt] at h1 h2
  exact char_back c (by rw [Int32.le_iff_toInt_le]; omega) (by rw [Int32.le_iff_toInt_le]; omega)
theorem own_mok (x : Int32) : own_Ok (x &&& 65535).toUInt32.toUInt16.toUInt32.toInt32 := by
  have e1 : (x &&& 65535).toInt = x.toInt % 2 ^ 16 := Jvm.Kit.i32_mask x 65535 (k := 16) (by decide) (by decide)
  have k0 : (0 : Int32).toInt = 0 := by decide
  have k1 : (65535 : Int32).toInt = 65535 := by decide
  have e2 : (x &&& 65535).toUInt32.toUInt16.toUInt32.toInt32 = (x &&& 65535) := char_back _ (by rw [Int32.le_iff_toInt_le]; omega) (by rw [Int32.le_iff_toInt_le]; omega)
  rw [e2]
  constructor <;> rw [Int32.lt_iff_toInt_lt] <;> omega
def own_b0 (c : Int32) : Int32 := nar .byte ((c >>> ((0 : Int32) &&& 31)).toInt8.toInt32)
def own_b1 (c : Int32) : Int32 := nar .byte ((c >>> ((8 : Int32) &&& 31)).toInt8.toInt32)
def own_ch (b0 b1 : Int32) : Int32 := (((b0 &&& (255 : Int32)) <<< ((0 : Int32) &&& 31)) ||| ((b1 &&& (255 : Int32)) <<< ((8 : Int32) &&& 31))).toUInt32.toUInt16.toUInt32.toInt32
theorem own_chk0 : ∀ h : Fin 16, ∀ l : Fin 256, own_ch (own_b0 (Int32.ofNat (0 + 256 * h + l))) (own_b1 (Int32.ofNat (0 + 256 * h + l))) = Int32.ofNat (0 + 256 * h + l) := by decide +kernel
theorem own_chk1 : ∀ h : Fin 16, ∀ l : Fin 256, own_ch (own_b0 (Int32.ofNat (4096 + 256 * h + l))) (own_b1 (Int32.ofNat (4096 + 256 * h + l))) = Int32.ofNat (4096 + 256 * h + l) := by decide +kernel
theorem own_chk2 : ∀ h : Fin 16, ∀ l : Fin 256, own_ch (own_b0 (Int32.ofNat (8192 + 256 * h + l))) (own_b1 (Int32.ofNat (8192 + 256 * h + l))) = Int32.ofNat (8192 + 256 * h + l) := by decide +kernel
theorem own_chk3 : ∀ h : Fin 16, ∀ l : Fin 256, own_ch (own_b0 (Int32.ofNat (12288 + 256 * h + l))) (own_b1 (Int32.ofNat (12288 + 256 * h + l))) = Int32.ofNat (12288 + 256 * h + l) := by decide +kernel
theorem own_chk4 : ∀ h : Fin 16, ∀ l : Fin 256, own_ch (own_b0 (Int32.ofNat (16384 + 256 * h + l))) (own_b1 (Int32.ofNat (16384 + 256 * h + l))) = Int32.ofNat (16384 + 256 * h + l) := by decide +kernel
theorem own_chk5 : ∀ h : Fin 16, ∀ l : Fin 256, own_ch (own_b0 (Int32.ofNat (20480 + 256 * h + l))) (own_b1 (Int32.ofNat (20480 + 256 * h + l))) = Int32.ofNat (20480 + 256 * h + l) := by decide +kernel
theorem own_chk6 : ∀ h : Fin 16, ∀ l : Fin 256, own_ch (own_b0 (Int32.ofNat (24576 + 256 * h + l))) (own_b1 (Int32.ofNat (24576 + 256 * h + l))) = Int32.ofNat (24576 + 256 * h + l) := by decide +kernel
theorem own_chk7 : ∀ h : Fin 16, ∀ l : Fin 256, own_ch (own_b0 (Int32.ofNat (28672 + 256 * h + l))) (own_b1 (Int32.ofNat (28672 + 256 * h + l))) = Int32.ofNat (28672 + 256 * h + l) := by decide +kernel
theorem own_chk8 : ∀ h : Fin 16, ∀ l : Fin 256, own_ch (own_b0 (Int32.ofNat (32768 + 256 * h + l))) (own_b1 (Int32.ofNat (32768 + 256 * h + l))) = Int32.ofNat (32768 + 256 * h + l) := by decide +kernel
theorem own_chk9 : ∀ h : Fin 16, ∀ l : Fin 256, own_ch (own_b0 (Int32.ofNat (36864 + 256 * h + l))) (own_b1 (Int32.ofNat (36864 + 256 * h + l))) = Int32.ofNat (36864 + 256 * h + l) := by decide +kernel
theorem own_chk10 : ∀ h : Fin 16, ∀ l : Fin 256, own_ch (own_b0 (Int32.ofNat (40960 + 256 * h + l))) (own_b1 (Int32.ofNat (40960 + 256 * h + l))) = Int32.ofNat (40960 + 256 * h + l) := by decide +kernel
theorem own_chk11 : ∀ h : Fin 16, ∀ l : Fin 256, own_ch (own_b0 (Int32.ofNat (45056 + 256 * h + l))) (own_b1 (Int32.ofNat (45056 + 256 * h + l))) = Int32.ofNat (45056 + 256 * h + l) := by decide +kernel
theorem own_chk12 : ∀ h : Fin 16, ∀ l : Fin 256, own_ch (own_b0 (Int32.ofNat (49152 + 256 * h + l))) (own_b1 (Int32.ofNat (49152 + 256 * h + l))) = Int32.ofNat (49152 + 256 * h + l) := by decide +kernel
theorem own_chk13 : ∀ h : Fin 16, ∀ l : Fin 256, own_ch (own_b0 (Int32.ofNat (53248 + 256 * h + l))) (own_b1 (Int32.ofNat (53248 + 256 * h + l))) = Int32.ofNat (53248 + 256 * h + l) := by decide +kernel
theorem own_chk14 : ∀ h : Fin 16, ∀ l : Fin 256, own_ch (own_b0 (Int32.ofNat (57344 + 256 * h + l))) (own_b1 (Int32.ofNat (57344 + 256 * h + l))) = Int32.ofNat (57344 + 256 * h + l) := by decide +kernel
theorem own_chk15 : ∀ h : Fin 16, ∀ l : Fin 256, own_ch (own_b0 (Int32.ofNat (61440 + 256 * h + l))) (own_b1 (Int32.ofNat (61440 + 256 * h + l))) = Int32.ofNat (61440 + 256 * h + l) := by decide +kernel
theorem own_chb {c : Int32} (h : own_Ok c) : own_ch (own_b0 c) (own_b1 c) = c := by
  obtain ⟨h1, h2⟩ := h
  have k0 : (0 : Int32).toInt = 0 := by decide
  have k2 : (65535 : Int32).toInt = 65535 := by decide
  rw [Int32.lt_iff_toInt_lt] at h1 h2
  have key : ∀ m : Nat, m + 256 * (c.toInt.toNat / 256 % 16) + c.toInt.toNat % 256 = c.toInt.toNat → c = Int32.ofNat (m + 256 * (c.toInt.toNat / 256 % 16) + c.toInt.toNat % 256) := by
    intro m hm
    apply Int32.toInt_inj.mp
    rw [hm, Int32.toInt_ofNat_of_lt (by omega)]; omega
  have hk : c.toInt.toNat / 4096 = 0 ∨ c.toInt.toNat / 4096 = 1 ∨ c.toInt.toNat / 4096 = 2 ∨ c.toInt.toNat / 4096 = 3 ∨ c.toInt.toNat / 4096 = 4 ∨ c.toInt.toNat / 4096 = 5 ∨ c.toInt.toNat / 4096 = 6 ∨ c.toInt.toNat / 4096 = 7 ∨ c.toInt.toNat / 4096 = 8 ∨ c.toInt.toNat / 4096 = 9 ∨ c.toInt.toNat / 4096 = 10 ∨ c.toInt.toNat / 4096 = 11 ∨ c.toInt.toNat / 4096 = 12 ∨ c.toInt.toNat / 4096 = 13 ∨ c.toInt.toNat / 4096 = 14 ∨ c.toInt.toNat / 4096 = 15 := by omega
  rcases hk with q | q | q | q | q | q | q | q | q | q | q | q | q | q | q | q
  · have e := key 0 (by omega)
    rw [e]; exact own_chk0 ⟨c.toInt.toNat / 256 % 16, by omega⟩ ⟨c.toInt.toNat % 256, by omega⟩
  · have e := key 4096 (by omega)
    rw [e]; exact own_chk1 ⟨c.toInt.toNat / 256 % 16, by omega⟩ ⟨c.toInt.toNat % 256, by omega⟩
  · have e := key 8192 (by omega)
    rw [e]; exact own_chk2 ⟨c.toInt.toNat / 256 % 16, by omega⟩ ⟨c.toInt.toNat % 256, by omega⟩
  · have e := key 12288 (by omega)
    rw [e]; exact own_chk3 ⟨c.toInt.toNat / 256 % 16, by omega⟩ ⟨c.toInt.toNat % 256, by omega⟩
  · have e := key 16384 (by omega)
    rw [e]; exact own_chk4 ⟨c.toInt.toNat / 256 % 16, by omega⟩ ⟨c.toInt.toNat % 256, by omega⟩
  · have e := key 20480 (by omega)
    rw [e]; exact own_chk5 ⟨c.toInt.toNat / 256 % 16, by omega⟩ ⟨c.toInt.toNat % 256, by omega⟩
  · have e := key 24576 (by omega)
    rw [e]; exact own_chk6 ⟨c.toInt.toNat / 256 % 16, by omega⟩ ⟨c.toInt.toNat % 256, by omega⟩
  · have e := key 28672 (by omega)
    rw [e]; exact own_chk7 ⟨c.toInt.toNat / 256 % 16, by omega⟩ ⟨c.toInt.toNat % 256, by omega⟩
  · have e := key 32768 (by omega)
    rw [e]; exact own_chk8 ⟨c.toInt.toNat / 256 % 16, by omega⟩ ⟨c.toInt.toNat % 256, by omega⟩
  · have e := key 36864 (by omega)
    rw [e]; exact own_chk9 ⟨c.toInt.toNat / 256 % 16, by omega⟩ ⟨c.toInt.toNat % 256, by omega⟩
  · have e := key 40960 (by omega)
    rw [e]; exact own_chk10 ⟨c.toInt.toNat / 256 % 16, by omega⟩ ⟨c.toInt.toNat % 256, by omega⟩
  · have e := key 45056 (by omega)
    rw [e]; exact own_chk11 ⟨c.toInt.toNat / 256 % 16, by omega⟩ ⟨c.toInt.toNat % 256, by omega⟩
  · have e := key 49152 (by omega)
    rw [e]; exact own_chk12 ⟨c.toInt.toNat / 256 % 16, by omega⟩ ⟨c.toInt.toNat % 256, by omega⟩
  · have e := key 53248 (by omega)
    rw [e]; exact own_chk13 ⟨c.toInt.toNat / 256 % 16, by omega⟩ ⟨c.toInt.toNat % 256, by omega⟩
  · have e := key 57344 (by omega)
    rw [e]; exact own_chk14 ⟨c.toInt.toNat / 256 % 16, by omega⟩ ⟨c.toInt.toNat % 256, by omega⟩
  · have e := key 61440 (by omega)
    rw [e]; exact own_chk15 ⟨c.toInt.toNat / 256 % 16, by omega⟩ ⟨c.toInt.toNat % 256, by omega⟩
def own_S (Z : State) (h : Heap) (r : Addr) (k : Int32) : Prop := ∃ (t : Addr) (cd : Int32) (vs : List Value) (n : Nat), Exa Z h r "java/lang/String" ∧ Fld Z h r "java/lang/String" "coder" "B" (.int cd) ∧ Fld Z h r "java/lang/String" "value" "[B" (.ref t) ∧ own_Arr Z h t .byte vs ∧ vs.length = n ∧ (cd = 0 ∨ cd = 1) ∧ n.toInt32 >>> (cd &&& 31) = k
def own_ce (p : Int32) : Int32 := if (255 : Int32) < p then 0 else 1
def QI (z : Int32) (h0 : Heap) (n0 : Nat) (v : Option Value) (h : Heap) (L : List Loc) : Prop := v = some (.int z) ∧ Fr n0 L ∧ h = h0
def QN (h0 : Heap) (n0 : Nat) (v : Option Value) (h : Heap) (L : List Loc) : Prop := v = none ∧ Fr n0 L ∧ h = h0
def QA (Z : State) (vs : List Value) (h0 : Heap) (n0 : Nat) (v : Option Value) (h : Heap) (L : List Loc) : Prop := ∃ r : Addr, v = some (.ref r) ∧ Fr n0 L ∧ Keep h0 h [] ∧ h0.size ≤ r ∧ own_Arr Z h r .byte vs
def QP (Z : State) (a : Addr) (vs : List Value) (h0 : Heap) (n0 : Nat) (v : Option Value) (h : Heap) (L : List Loc) : Prop := v = none ∧ Fr n0 L ∧ Keep h0 h [a] ∧ own_Arr Z h a .byte vs
def Q52 (Z : State) (a : Addr) (c0 c1 : Int32) (h0 : Heap) (n0 : Nat) (v : Option Value) (h : Heap) (L : List Loc) : Prop := ∃ (z : Int32) (vs : List Value), v = some (.int z) ∧ Fr n0 L ∧ Keep h0 h [a] ∧ own_Arr Z h a .byte vs ∧ vs.length = 2 ∧ (z = 2 ∨ (z = 0 ∧ (255 : Int32) < c0) ∨ (z = 1 ∧ (255 : Int32) < c1))
def Q53 (Z : State) (a : Addr) (c0 c1 c2 : Int32) (h0 : Heap) (n0 : Nat) (v : Option Value) (h : Heap) (L : List Loc) : Prop := ∃ (z : Int32) (vs : List Value), v = some (.int z) ∧ Fr n0 L ∧ Keep h0 h [a] ∧ own_Arr Z h a .byte vs ∧ vs.length = 3 ∧ (z = 3 ∨ (z = 0 ∧ (255 : Int32) < c0) ∨ (z = 1 ∧ (255 : Int32) < c1) ∨ (z = 2 ∧ (255 : Int32) < c2))
def Q4 (Z : State) (k : Nat) (h0 : Heap) (n0 : Nat) (v : Option Value) (h : Heap) (L : List Loc) : Prop := ∃ (r : Addr) (vs : List Value) (n : Nat), v = some (.ref r) ∧ Fr n0 L ∧ Keep h0 h [] ∧ own_Arr Z h r .byte vs ∧ vs.length = n ∧ (n = k ∨ n = 2 * k)
def QS (Z : State) (a : Addr) (k : Int32) (h0 : Heap) (n0 : Nat) (v : Option Value) (h : Heap) (L : List Loc) : Prop := v = none ∧ Fr n0 L ∧ Keep h0 h [a] ∧ own_S Z h a k
def QR (Z : State) (k : Int32) (h0 : Heap) (n0 : Nat) (v : Option Value) (h : Heap) (L : List Loc) : Prop := ∃ r : Addr, v = some (.ref r) ∧ Fr n0 L ∧ Keep h0 h [] ∧ own_S Z h r k
def QF (Z : State) (a t : Addr) (cd : Int32) (h0 : Heap) (n0 : Nat) (v : Option Value) (h : Heap) (L : List Loc) : Prop := v = none ∧ Fr n0 L ∧ Keep h0 h [a] ∧ Exa Z h a "java/lang/String" ∧ Fld Z h a "java/lang/String" "coder" "B" (.int cd) ∧ Fld Z h a "java/lang/String" "value" "[B" (.ref t)
def Q7 (Z : State) (a lb : Addr) (st : Int32) (h0 : Heap) (n0 : Nat) (v : Option Value) (h : Heap) (L : List Loc) : Prop := v = none ∧ Fr n0 L ∧ Keep h0 h [a] ∧ Exa Z h a "com/example/restate/restate/Citation" ∧ Fld Z h a "com/example/restate/restate/Citation" "start" "I" (.int st) ∧ Fld Z h a "com/example/restate/restate/Citation" "label" "Ljava/lang/String;" (.ref lb)
def Q0 (n0 : Nat) (v : Option Value) (h : Heap) (L : List Loc) : Prop := v = some (.int (1 : Int32)) ∧ Fr n0 L
theorem own_m3 (x : Int32) : 0 ≤ (x &&& 3).toInt ∧ (x &&& 3).toInt < 4 := by
  have e1 : (x &&& 3).toInt = x.toInt % 2 ^ 2 := Jvm.Kit.i32_mask x 3 (k := 2) (by decide) (by decide)
  omega
theorem own_l4 {k : Int32} (h0 : 0 ≤ k.toInt) (h1 : k.toInt < 4) : k = 0 ∨ k = 1 ∨ k = 2 ∨ k = 3 := by
  simp only [← Int32.toInt_inj, show (0 : Int32).toInt = 0 from by decide, show (1 : Int32).toInt = 1 from by decide, show (2 : Int32).toInt = 2 from by decide, show (3 : Int32).toInt = 3 from by decide]
  omega
theorem own_nosE {Z : State} {h : Heap} {a : Addr} {C : String} (E : Exa Z h a C) : ∀ cell : Cell, h[a]? = some cell → cell.vm.isStatics = false := by
  intro cell hc
  obtain ⟨c, k, e1, -, -, e4, -⟩ := E
  cases e1.symm.trans hc; exact e4
theorem own_S.ext {Z : State} {h h' : Heap} {r : Addr} {k : Int32} (F : own_S Z h r k) (E : Ext h h') : own_S Z h' r k := by
  obtain ⟨t, cd, vs, n, h1, h2, h3, h4, q⟩ := F; exact ⟨t, cd, vs, n, Exa.ext E h1, Fld.ext E h2, Fld.ext E h3, h4.ext E, q⟩
theorem own_S.keep {Z : State} {h h' : Heap} {r x : Addr} {k : Int32} {C : String} {kk : Nat} {a0 : Array Value} (F : own_S Z h r k) (K : Keep h h' [x]) (E : Exa Z h x C) (wi : (Cond.instantiable C kk).before a0 Z = true) (hC : C ≠ "java/lang/String") : own_S Z h' r k := by
  obtain ⟨t, cd, vs, n, h1, h2, h3, h4, q⟩ := F
  have n1 : r ≠ x := ne_exa h1 E (fun e => hC e.symm)
  have n2 : t ≠ x := Ne.symm (own_exa_arr E wi h4)
  exact ⟨t, cd, vs, n, Exa.keep h1 K, Fld.keep h2 K (ninS n1 nin0), Fld.keep h3 K (ninS n1 nin0), h4.keep K (ninS n2 nin0), q⟩
theorem own_strs {Z : State} {a0 : Array Value} (hw : ∀ d ∈ tables_1, d.before a0 Z = true) : ∀ a ∈ Bundle.stringAtoms, a.before a0 Z = true := by
  intro a ha
  simp only [Bundle.stringAtoms, List.mem_cons, List.not_mem_nil, or_false] at ha
  rcases ha with rfl | rfl | rfl | rfl | rfl | rfl | rfl
  · exact (own_w hw 4 rfl)
  · exact (own_w hw 3 rfl)
  · exact (own_w hw 21 rfl)
  · exact (own_w hw 31 rfl)
  · exact (own_w hw 29 rfl)
  · exact (own_w hw 108 rfl)
  · exact (own_w hw 109 rfl)
theorem ef_19 (m : MethodId) (a1 : Addr) (p2 : Int32) (p3 : Int32) : entryFrame m #[(.ref a1), (.int p2), (.int p3)] 3 = mkF m 0 #[.val (.ref a1), .val (.int p2), .val (.int p3)] [] := by first | (simp [entryFrame, mkF, argsToLocals, Value.category]; done) | rfl
set_option maxRecDepth 65536 in
set_option maxHeartbeats 40000000 in
theorem rm19 (l : Launch) (Z : State) (a0 : Array Value) (hw : ∀ d ∈ tables_1, d.before a0 Z = true) (ws : List Jvm.Cond) (a1 : Addr) (p2 : Int32) (p3 : Int32) (m_ : Nat) (vs : List Value) (h0 : Heap) (n0 : Nat) (Z0 : n0 ≤ h0.size) (S_ad : Sta Z h0 "java/lang/StringUTF16" "$assertionsDisabled" "Z" (.int (1 : Int32))) (S_hb : Sta Z h0 "java/lang/StringUTF16" "HI_BYTE_SHIFT" "I" (.int (0 : Int32))) (S_lb : Sta Z h0 "java/lang/StringUTF16" "LO_BYTE_SHIFT" "I" (.int (8 : Int32))) (V_a1 : own_Arr Z h0 a1 .byte vs) (g_a1 : n0 ≤ a1) (hsh : (p2 <<< ((1 : Int32) &&& 31)).toInt = ((m_ : Nat) : Int)) (hm : m_ + 2 ≤ vs.length) (hm9 : m_ < 1000) :
    MetFree l (⟨"java/lang/StringUTF16", "putChar", "([BII)V"⟩ : MethodName) (head1 (Jvm.Cond.code (⟨"java/lang/StringUTF16", "putChar", "([BII)V"⟩ : MethodName) jdk_52_method_4_code 3 none :: ws) ({ frames := 0, cells := 0, slots := 0, locals := 0 } : Room)) (fun a U => a = #[(.ref a1), (.int p2), (.int p3)] ∧ Z.Warmed39 U.vm ∧ U.heap = h0) (fun _ _ _ _ _ => True) (fun _ U o U' => ∃ v L, o = .returned v ∧ QP Z a1 ((vs.set m_ (.int (own_b0 p3))).set (m_ + 1) (.int (own_b1 p3))) h0 n0 v U'.heap L ∧ FrameEnd U o U' L ({ frames := 0, cells := 0, slots := 0, locals := 0 } : Room).cells ({ frames := 0, cells := 0, slots := 0, locals := 0 } : Room).slots) := by
  refine MetFree.of_bodySF (plainFor_of_name pn_4) hisR ?_
  intro p e s m args below meth c s₁ Bd hml0 hP hK
  obtain ⟨rfl, hZ, hh⟩ := hP
  have hx := Bd.exec
  have hby := Bd.bytes
  have hml : c.maxLocals = 3 := hml0
  have hown : s.vm.findClass "java/lang/StringUTF16" = some m.cls := findClass_of_methodNamed Bd.named
  have hnm := (name_of_methodNamed Bd.named Bd.method).1
  have hlk : meth.locks = false := BodyLoose.notSynchronized Bd
  have X0 : Stand p l e ({ frames := 0, cells := 0, slots := 0, locals := 0 } : Room) s m #[(.ref a1), (.int p2), (.int p3)] below meth c s₁ [] 0 0 := Stand.of_body Bd
  have e0 : s₁.heap = h0 := by rw [← hh, Bd.state]; rfl
  have N0 := Fr.nil n0
  refine own_start (Q := QP Z a1 ((vs.set m_ (.int (own_b0 p3))).set (m_ + 1) (.int (own_b1 p3))) h0 n0) (ef_19 m a1 p2 p3) ?_
  have K0 := Keep.refl h0 [a1]
  show own_Go p e below _ s₁ (mkF m 0 #[.val (.ref a1), .val (.int p2), .val (.int p3)] [])
  refine own_getS X0 hx hZ hown (own_w hw 99 rfl) Via.refl e0 S_ad (hb hby d19_0) ?_
  intro T1 X1 e1
  show own_Go p e below _ T1 (mkF m 3 #[.val (.ref a1), .val (.int p2), .val (.int p3)] [(.int (1 : Int32))])
  refine own_if X1 hx 28 (hb hby d19_3) (by decide) (by decide) (fun _ => ?_) (fun hc => absurd (show ¬ (1 : Int32) = (0 : Int32) from by decide) (by first | exact hc | exact not_not_intro hc))
  show own_Go p e below _ T1 (mkF m 28 #[.val (.ref a1), .val (.int p2), .val (.int p3)] [])
  refine own_by (fun t_ k_ => XS.iloadN X1.here hx rfl (hb hby d19_28) rfl k_) ?_
  show own_Go p e below _ T1 (mkF m 29 #[.val (.ref a1), .val (.int p2), .val (.int p3)] [(.int p2)])
  refine own_by (fun t_ k_ => XS.iconst X1.here hx rfl (hb hby d19_29) k_) ?_
  show own_Go p e below _ T1 (mkF m 30 #[.val (.ref a1), .val (.int p2), .val (.int p3)] [(.int (1 : Int32)), (.int p2)])
  refine own_by (fun t_ k_ => XT.ishl X1.here hx rfl (hb hby d19_30) rfl k_) ?_
  show own_Go p e below _ T1 (mkF m 31 #[.val (.ref a1), .val (.int p2), .val (.int p3)] [(.int (p2 <<< ((1 : Int32) &&& 31)))])
  refine own_by (fun t_ k_ => XS.istoreN X1.here hx rfl (hb hby d19_31) rfl (l' := #[.val (.ref a1), .val (.int (p2 <<< ((1 : Int32) &&& 31))), .val (.int p3)]) rfl k_) ?_
  show own_Go p e below _ T1 (mkF m 32 #[.val (.ref a1), .val (.int (p2 <<< ((1 : Int32) &&& 31))), .val (.int p3)] [])
  refine own_by (fun t_ k_ => XS.aloadN X1.here hx rfl (hb hby d19_32) rfl rfl k_) ?_
  show own_Go p e below _ T1 (mkF m 33 #[.val (.ref a1), .val (.int (p2 <<< ((1 : Int32) &&& 31))), .val (.int p3)] [(.ref a1)])
  refine own_by (fun t_ k_ => XS.iloadN X1.here hx rfl (hb hby d19_33) rfl k_) ?_
  show own_Go p e below _ T1 (mkF m 34 #[.val (.ref a1), .val (.int (p2 <<< ((1 : Int32) &&& 31))), .val (.int p3)] [(.int (p2 <<< ((1 : Int32) &&& 31))), (.ref a1)])
  refine own_by (fun t_ k_ => XS.iinc X1.here hx rfl (hb hby d19_34) rfl (l' := #[.val (.ref a1), .val (.int ((p2 <<< ((1 : Int32) &&& 31)) + (1 : Int32))), .val (.int p3)]) rfl k_) ?_
  show own_Go p e below _ T1 (mkF m 37 #[.val (.ref a1), .val (.int ((p2 <<< ((1 : Int32) &&& 31)) + (1 : Int32))), .val (.int p3)] [(.int (p2 <<< ((1 : Int32) &&& 31))), (.ref a1)])
  refine own_by (fun t_ k_ => XS.iloadN X1.here hx rfl (hb hby d19_37) rfl k_) ?_
  show own_Go p e below _ T1 (mkF m 38 #[.val (.ref a1), .val (.int ((p2 <<< ((1 : Int32) &&& 31)) + (1 : Int32))), .val (.int p3)] [(.int p3), (.int (p2 <<< ((1 : Int32) &&& 31))), (.ref a1)])
  refine own_getS X1 hx hZ hown (own_w hw 100 rfl) Via.refl e1 S_hb (hb hby d19_38) ?_
  intro T2 X2 e2
  show own_Go p e below _ T2 (mkF m 41 #[.val (.ref a1), .val (.int ((p2 <<< ((1 : Int32) &&& 31)) + (1 : Int32))), .val (.int p3)] [(.int (0 : Int32)), (.int p3), (.int (p2 <<< ((1 : Int32) &&& 31))), (.ref a1)])
  refine own_by (fun t_ k_ => XT.ishr X2.here hx rfl (hb hby d19_41) rfl k_) ?_
  show own_Go p e below _ T2 (mkF m 42 #[.val (.ref a1), .val (.int ((p2 <<< ((1 : Int32) &&& 31)) + (1 : Int32))), .val (.int p3)] [(.int (p3 >>> ((0 : Int32) &&& 31))), (.int (p2 <<< ((1 : Int32) &&& 31))), (.ref a1)])
  refine own_by (fun t_ k_ => XT.i2b X2.here hx rfl (hb hby d19_42) rfl k_) ?_
  show own_Go p e below _ T2 (mkF m 43 #[.val (.ref a1), .val (.int ((p2 <<< ((1 : Int32) &&& 31)) + (1 : Int32))), .val (.int p3)] [(.int (p3 >>> ((0 : Int32) &&& 31)).toInt8.toInt32), (.int (p2 <<< ((1 : Int32) &&& 31))), (.ref a1)])
  refine own_bastore X2 hx hZ e2 V_a1 m_ hsh (by omega) (hb hby d19_43) ?_
  intro T3 h3 X3 e3 W3 A3
  have V3_0 : own_Arr Z h3 a1 .byte (vs.set m_ (.int (nar .byte (p3 >>> ((0 : Int32) &&& 31)).toInt8.toInt32))) := A3
  have N3 := Fr.snoc X3 N0 g_a1
  have sz3 : n0 ≤ h3.size := Nat.le_trans Z0 (Keep.of_wr W3).1
  have K3 : Keep h0 h3 [a1] := K0.wr W3 (Or.inl (List.mem_cons_self ..))
  show own_Go p e below _ T3 (mkF m 44 #[.val (.ref a1), .val (.int ((p2 <<< ((1 : Int32) &&& 31)) + (1 : Int32))), .val (.int p3)] [])
  refine own_by (fun t_ k_ => XS.aloadN X3.here hx rfl (hb hby d19_44) rfl rfl k_) ?_
  show own_Go p e below _ T3 (mkF m 45 #[.val (.ref a1), .val (.int ((p2 <<< ((1 : Int32) &&& 31)) + (1 : Int32))), .val (.int p3)] [(.ref a1)])
  refine own_by (fun t_ k_ => XS.iloadN X3.here hx rfl (hb hby d19_45) rfl k_) ?_
  show own_Go p e below _ T3 (mkF m 46 #[.val (.ref a1), .val (.int ((p2 <<< ((1 : Int32) &&& 31)) + (1 : Int32))), .val (.int p3)] [(.int ((p2 <<< ((1 : Int32) &&& 31)) + (1 : Int32))), (.ref a1)])
  refine own_by (fun t_ k_ => XS.iloadN X3.here hx rfl (hb hby d19_46) rfl k_) ?_
  show own_Go p e below _ T3 (mkF m 47 #[.val (.ref a1), .val (.int ((p2 <<< ((1 : Int32) &&& 31)) + (1 : Int32))), .val (.int p3)] [(.int p3), (.int ((p2 <<< ((1 : Int32) &&& 31)) + (1 : Int32))), (.ref a1)])
  have S_lb_5 : Sta Z h3 "java/lang/StringUTF16" "LO_BYTE_SHIFT" "I" (.int (8 : Int32)) := (Sta.wr W3 S_lb)
  refine own_getS X3 hx hZ hown (own_w hw 101 rfl) Via.refl e3 S_lb_5 (hb hby d19_47) ?_
  intro T4 X4 e4
  show own_Go p e below _ T4 (mkF m 50 #[.val (.ref a1), .val (.int ((p2 <<< ((1 : Int32) &&& 31)) + (1 : Int32))), .val (.int p3)] [(.int (8 : Int32)), (.int p3), (.int ((p2 <<< ((1 : Int32) &&& 31)) + (1 : Int32))), (.ref a1)])
  refine own_by (fun t_ k_ => XT.ishr X4.here hx rfl (hb hby d19_50) rfl k_) ?_
  show own_Go p e below _ T4 (mkF m 51 #[.val (.ref a1), .val (.int ((p2 <<< ((1 : Int32) &&& 31)) + (1 : Int32))), .val (.int p3)] [(.int (p3 >>> ((8 : Int32) &&& 31))), (.int ((p2 <<< ((1 : Int32) &&& 31)) + (1 : Int32))), (.ref a1)])
  refine own_by (fun t_ k_ => XT.i2b X4.here hx rfl (hb hby d19_51) rfl k_) ?_
  show own_Go p e below _ T4 (mkF m 52 #[.val (.ref a1), .val (.int ((p2 <<< ((1 : Int32) &&& 31)) + (1 : Int32))), .val (.int p3)] [(.int (p3 >>> ((8 : Int32) &&& 31)).toInt8.toInt32), (.int ((p2 <<< ((1 : Int32) &&& 31)) + (1 : Int32))), (.ref a1)])
  refine own_bastore X4 hx hZ e4 V3_0 (m_ + 1) (own_inc hsh (by omega)) (by simp; omega) (hb hby d19_52) ?_
  intro T6 h6 X6 e6 W6 A6
  have V6_0 : own_Arr Z h6 a1 .byte ((vs.set m_ (.int (nar .byte (p3 >>> ((0 : Int32) &&& 31)).toInt8.toInt32))).set (m_ + 1) (.int (nar .byte (p3 >>> ((8 : Int32) &&& 31)).toInt8.toInt32))) := A6
  have N6 := Fr.snoc X6 N3 g_a1
  have sz6 : n0 ≤ h6.size := Nat.le_trans sz3 (Keep.of_wr W6).1
  have K6 : Keep h0 h6 [a1] := K3.wr W6 (Or.inl (List.mem_cons_self ..))
  show own_Go p e below _ T6 (mkF m 53 #[.val (.ref a1), .val (.int ((p2 <<< ((1 : Int32) &&& 31)) + (1 : Int32))), .val (.int p3)] [])
  refine own_retV X6 hx hlk Bd.returns (hb hby d19_53) e6 (by decide) (by decide) ?_
  exact ⟨rfl, N6, K6, V6_0⟩
theorem ef_20 (m : MethodId) (a1 : Addr) (p2 : Int32) : entryFrame m #[(.ref a1), (.int p2)] 2 = mkF m 0 #[.val (.ref a1), .val (.int p2)] [] := by first | (simp [entryFrame, mkF, argsToLocals, Value.category]; done) | rfl
set_option maxRecDepth 65536 in
set_option maxHeartbeats 40000000 in
theorem rm20 (l : Launch) (Z : State) (a0 : Array Value) (hw : ∀ d ∈ tables_1, d.before a0 Z = true) (ws : List Jvm.Cond) (a1 : Addr) (p2 : Int32) (m_ : Nat) (vs : List Value) (x0 : Int32) (x1 : Int32) (h0 : Heap) (n0 : Nat) (Z0 : n0 ≤ h0.size) (S_ad : Sta Z h0 "java/lang/StringUTF16" "$assertionsDisabled" "Z" (.int (1 : Int32))) (S_hb : Sta Z h0 "java/lang/StringUTF16" "HI_BYTE_SHIFT" "I" (.int (0 : Int32))) (S_lb : Sta Z h0 "java/lang/StringUTF16" "LO_BYTE_SHIFT" "I" (.int (8 : Int32))) (V_a1 : own_Arr Z h0 a1 .byte vs) (hsh : (p2 <<< ((1 : Int32) &&& 31)).toInt = ((m_ : Nat) : Int)) (hm9 : m_ < 1000) (hv0 : vs[m_]? = some (.int x0)) (hv1 : vs[m_ + 1]? = some (.int x1)) :
    MetFree l (⟨"java/lang/StringUTF16", "getChar", "([BI)C"⟩ : MethodName) (head1 (Jvm.Cond.code (⟨"java/lang/StringUTF16", "getChar", "([BI)C"⟩ : MethodName) jdk_52_method_5_code 2 (some .char) :: ws) ({ frames := 0, cells := 0, slots := 0, locals := 0 } : Room)) (fun a U => a = #[(.ref a1), (.int p2)] ∧ Z.Warmed39 U.vm ∧ U.heap = h0) (fun _ _ _ _ _ => True) (fun _ U o U' => ∃ v L, o = .returned v ∧ QI (own_ch x0 x1) h0 n0 v U'.heap L ∧ FrameEnd U o U' L ({ frames := 0, cells := 0, slots := 0, locals := 0 } : Room).cells ({ frames := 0, cells := 0, slots := 0, locals := 0 } : Room).slots) := by
  refine MetFree.of_bodySF (plainFor_of_name pn_4) hisR ?_
  intro p e s m args below meth c s₁ Bd hml0 hP hK
  obtain ⟨rfl, hZ, hh⟩ := hP
  have hx := Bd.exec
  have hby := Bd.bytes
  have hml : c.maxLocals = 2 := hml0
  have hown : s.vm.findClass "java/lang/StringUTF16" = some m.cls := findClass_of_methodNamed Bd.named
  have hnm := (name_of_methodNamed Bd.named Bd.method).1
  have hlk : meth.locks = false := BodyLoose.notSynchronized Bd
  have X0 : Stand p l e ({ frames := 0, cells := 0, slots := 0, locals := 0 } : Room) s m #[(.ref a1), (.int p2)] below meth c s₁ [] 0 0 := Stand.of_body Bd
  have e0 : s₁.heap = h0 := by rw [← hh, Bd.state]; rfl
  have N0 := Fr.nil n0
  refine own_start (Q := QI (own_ch x0 x1) h0 n0) (ef_20 m a1 p2) ?_
  show own_Go p e below _ s₁ (mkF m 0 #[.val (.ref a1), .val (.int p2)] [])
  refine own_getS X0 hx hZ hown (own_w hw 99 rfl) Via.refl e0 S_ad (hb hby d20_0) ?_
  intro T1 X1 e1
  show own_Go p e below _ T1 (mkF m 3 #[.val (.ref a1), .val (.int p2)] [(.int (1 : Int32))])
  refine own_if X1 hx 28 (hb hby d20_3) (by decide) (by decide) (fun _ => ?_) (fun hc => absurd (show ¬ (1 : Int32) = (0 : Int32) from by decide) (by first | exact hc | exact not_not_intro hc))
  show own_Go p e below _ T1 (mkF m 28 #[.val (.ref a1), .val (.int p2)] [])
  refine own_by (fun t_ k_ => XS.iloadN X1.here hx rfl (hb hby d20_28) rfl k_) ?_
  show own_Go p e below _ T1 (mkF m 29 #[.val (.ref a1), .val (.int p2)] [(.int p2)])
  refine own_by (fun t_ k_ => XS.iconst X1.here hx rfl (hb hby d20_29) k_) ?_
  show own_Go p e below _ T1 (mkF m 30 #[.val (.ref a1), .val (.int p2)] [(.int (1 : Int32)), (.int p2)])
  refine own_by (fun t_ k_ => XT.ishl X1.here hx rfl (hb hby d20_30) rfl k_) ?_
  show own_Go p e below _ T1 (mkF m 31 #[.val (.ref a1), .val (.int p2)] [(.int (p2 <<< ((1 : Int32) &&& 31)))])
  refine own_by (fun t_ k_ => XS.istoreN X1.here hx rfl (hb hby d20_31) rfl (l' := #[.val (.ref a1), .val (.int (p2 <<< ((1 : Int32) &&& 31)))]) rfl k_) ?_
  show own_Go p e below _ T1 (mkF m 32 #[.val (.ref a1), .val (.int (p2 <<< ((1 : Int32) &&& 31)))] [])
  refine own_by (fun t_ k_ => XS.aloadN X1.here hx rfl (hb hby d20_32) rfl rfl k_) ?_
  show own_Go p e below _ T1 (mkF m 33 #[.val (.ref a1), .val (.int (p2 <<< ((1 : Int32) &&& 31)))] [(.ref a1)])
  refine own_by (fun t_ k_ => XS.iloadN X1.here hx rfl (hb hby d20_33) rfl k_) ?_
  show own_Go p e below _ T1 (mkF m 34 #[.val (.ref a1), .val (.int (p2 <<< ((1 : Int32) &&& 31)))] [(.int (p2 <<< ((1 : Int32) &&& 31))), (.ref a1)])
  refine own_by (fun t_ k_ => XS.iinc X1.here hx rfl (hb hby d20_34) rfl (l' := #[.val (.ref a1), .val (.int ((p2 <<< ((1 : Int32) &&& 31)) + (1 : Int32)))]) rfl k_) ?_
  show own_Go p e below _ T1 (mkF m 37 #[.val (.ref a1), .val (.int ((p2 <<< ((1 : Int32) &&& 31)) + (1 : Int32)))] [(.int (p2 <<< ((1 : Int32) &&& 31))), (.ref a1)])
  refine own_baload X1 hx hZ e1 V_a1 (v := (.int x0)) m_ hsh hv0 (hb hby d20_37) ?_
  show own_Go p e below _ T1 (mkF m 38 #[.val (.ref a1), .val (.int ((p2 <<< ((1 : Int32) &&& 31)) + (1 : Int32)))] [(.int x0)])
  refine own_by (fun t_ k_ => XS.sipush X1.here hx rfl (hb hby d20_38) k_) ?_
  show own_Go p e below _ T1 (mkF m 41 #[.val (.ref a1), .val (.int ((p2 <<< ((1 : Int32) &&& 31)) + (1 : Int32)))] [(.int (255 : Int32)), (.int x0)])
  refine own_by (fun t_ k_ => XS.iand X1.here hx rfl (hb hby d20_41) rfl k_) ?_
  show own_Go p e below _ T1 (mkF m 42 #[.val (.ref a1), .val (.int ((p2 <<< ((1 : Int32) &&& 31)) + (1 : Int32)))] [(.int (x0 &&& (255 : Int32)))])
  refine own_getS X1 hx hZ hown (own_w hw 100 rfl) Via.refl e1 S_hb (hb hby d20_42) ?_
  intro T2 X2 e2
  show own_Go p e below _ T2 (mkF m 45 #[.val (.ref a1), .val (.int ((p2 <<< ((1 : Int32) &&& 31)) + (1 : Int32)))] [(.int (0 : Int32)), (.int (x0 &&& (255 : Int32)))])
  refine own_by (fun t_ k_ => XT.ishl X2.here hx rfl (hb hby d20_45) rfl k_) ?_
  show own_Go p e below _ T2 (mkF m 46 #[.val (.ref a1), .val (.int ((p2 <<< ((1 : Int32) &&& 31)) + (1 : Int32)))] [(.int ((x0 &&& (255 : Int32)) <<< ((0 : Int32) &&& 31)))])
  refine own_by (fun t_ k_ => XS.aloadN X2.here hx rfl (hb hby d20_46) rfl rfl k_) ?_
  show own_Go p e below _ T2 (mkF m 47 #[.val (.ref a1), .val (.int ((p2 <<< ((1 : Int32) &&& 31)) + (1 : Int32)))] [(.ref a1), (.int ((x0 &&& (255 : Int32)) <<< ((0 : Int32) &&& 31)))])
  refine own_by (fun t_ k_ => XS.iloadN X2.here hx rfl (hb hby d20_47) rfl k_) ?_
  show own_Go p e below _ T2 (mkF m 48 #[.val (.ref a1), .val (.int ((p2 <<< ((1 : Int32) &&& 31)) + (1 : Int32)))] [(.int ((p2 <<< ((1 : Int32) &&& 31)) + (1 : Int32))), (.ref a1), (.int ((x0 &&& (255 : Int32)) <<< ((0 : Int32) &&& 31)))])
  refine own_baload X2 hx hZ e2 V_a1 (v := (.int x1)) (m_ + 1) (own_inc hsh (by omega)) hv1 (hb hby d20_48) ?_
  show own_Go p e below _ T2 (mkF m 49 #[.val (.ref a1), .val (.int ((p2 <<< ((1 : Int32) &&& 31)) + (1 : Int32)))] [(.int x1), (.int ((x0 &&& (255 : Int32)) <<< ((0 : Int32) &&& 31)))])
  refine own_by (fun t_ k_ => XS.sipush X2.here hx rfl (hb hby d20_49) k_) ?_
  show own_Go p e below _ T2 (mkF m 52 #[.val (.ref a1), .val (.int ((p2 <<< ((1 : Int32) &&& 31)) + (1 : Int32)))] [(.int (255 : Int32)), (.int x1), (.int ((x0 &&& (255 : Int32)) <<< ((0 : Int32) &&& 31)))])
  refine own_by (fun t_ k_ => XS.iand X2.here hx rfl (hb hby d20_52) rfl k_) ?_
  show own_Go p e below _ T2 (mkF m 53 #[.val (.ref a1), .val (.int ((p2 <<< ((1 : Int32) &&& 31)) + (1 : Int32)))] [(.int (x1 &&& (255 : Int32))), (.int ((x0 &&& (255 : Int32)) <<< ((0 : Int32) &&& 31)))])
  refine own_getS X2 hx hZ hown (own_w hw 101 rfl) Via.refl e2 S_lb (hb hby d20_53) ?_
  intro T3 X3 e3
  show own_Go p e below _ T3 (mkF m 56 #[.val (.ref a1), .val (.int ((p2 <<< ((1 : Int32) &&& 31)) + (1 : Int32)))] [(.int (8 : Int32)), (.int (x1 &&& (255 : Int32))), (.int ((x0 &&& (255 : Int32)) <<< ((0 : Int32) &&& 31)))])
  refine own_by (fun t_ k_ => XT.ishl X3.here hx rfl (hb hby d20_56) rfl k_) ?_
  show own_Go p e below _ T3 (mkF m 57 #[.val (.ref a1), .val (.int ((p2 <<< ((1 : Int32) &&& 31)) + (1 : Int32)))] [(.int ((x1 &&& (255 : Int32)) <<< ((8 : Int32) &&& 31))), (.int ((x0 &&& (255 : Int32)) <<< ((0 : Int32) &&& 31)))])
  refine own_by (fun t_ k_ => XT.ior X3.here hx rfl (hb hby d20_57) rfl k_) ?_
  show own_Go p e below _ T3 (mkF m 58 #[.val (.ref a1), .val (.int ((p2 <<< ((1 : Int32) &&& 31)) + (1 : Int32)))] [(.int (((x0 &&& (255 : Int32)) <<< ((0 : Int32) &&& 31)) ||| ((x1 &&& (255 : Int32)) <<< ((8 : Int32) &&& 31))))])
  refine own_by (fun t_ k_ => XT.i2c X3.here hx rfl (hb hby d20_58) rfl k_) ?_
  show own_Go p e below _ T3 (mkF m 59 #[.val (.ref a1), .val (.int ((p2 <<< ((1 : Int32) &&& 31)) + (1 : Int32)))] [(.int (((x0 &&& (255 : Int32)) <<< ((0 : Int32) &&& 31)) ||| ((x1 &&& (255 : Int32)) <<< ((8 : Int32) &&& 31))).toUInt32.toUInt16.toUInt32.toInt32)])
  refine own_ret X3 hx hlk Bd.returns (t := .char) (Or.inl ⟨rfl, by simp, _, rfl⟩) (Jvm.Free.XT.narrow_c _) (hb hby d20_59) e3 (by decide) (by decide) ?_
  exact ⟨rfl, N0, rfl⟩
theorem ef_18_2 (m : MethodId)  : entryFrame m #[(.int (2 : Int32))] 1 = mkF m 0 #[.val (.int (2 : Int32))] [] := by first | (simp [entryFrame, mkF, argsToLocals, Value.category]; done) | rfl
set_option maxRecDepth 65536 in
set_option maxHeartbeats 40000000 in
theorem rm18_2 (l : Launch) (Z : State) (a0 : Array Value) (hw : ∀ d ∈ tables_1, d.before a0 Z = true) (ws : List Jvm.Cond)  (h0 : Heap) (n0 : Nat) (Z0 : n0 ≤ h0.size) :
    MetFree l (⟨"java/lang/StringUTF16", "newBytesLength", "(I)I"⟩ : MethodName) (head1 (Jvm.Cond.code (⟨"java/lang/StringUTF16", "newBytesLength", "(I)I"⟩ : MethodName) jdk_52_method_3_code 1 (some .int) :: ws) ({ frames := 0, cells := 0, slots := 0, locals := 0 } : Room)) (fun a U => a = #[(.int (2 : Int32))] ∧ Z.Warmed39 U.vm ∧ U.heap = h0) (fun _ _ _ _ _ => True) (fun _ U o U' => ∃ v L, o = .returned v ∧ QI 4 h0 n0 v U'.heap L ∧ FrameEnd U o U' L ({ frames := 0, cells := 0, slots := 0, locals := 0 } : Room).cells ({ frames := 0, cells := 0, slots := 0, locals := 0 } : Room).slots) := by
  refine MetFree.of_bodySF (plainFor_of_name pn_4) hisR ?_
  intro p e s m args below meth c s₁ Bd hml0 hP hK
  obtain ⟨rfl, hZ, hh⟩ := hP
  have hx := Bd.exec
  have hby := Bd.bytes
  have hml : c.maxLocals = 1 := hml0
  have hown : s.vm.findClass "java/lang/StringUTF16" = some m.cls := findClass_of_methodNamed Bd.named
  have hnm := (name_of_methodNamed Bd.named Bd.method).1
  have hlk : meth.locks = false := BodyLoose.notSynchronized Bd
  have X0 : Stand p l e ({ frames := 0, cells := 0, slots := 0, locals := 0 } : Room) s m #[(.int (2 : Int32))] below meth c s₁ [] 0 0 := Stand.of_body Bd
  have e0 : s₁.heap = h0 := by rw [← hh, Bd.state]; rfl
  have N0 := Fr.nil n0
  refine own_start (Q := QI 4 h0 n0) (ef_18_2 m ) ?_
  show own_Go p e below _ s₁ (mkF m 0 #[.val (.int (2 : Int32))] [])
  refine own_by (fun t_ k_ => XS.iloadN X0.here hx rfl (hb hby d18_0) rfl k_) ?_
  show own_Go p e below _ s₁ (mkF m 1 #[.val (.int (2 : Int32))] [(.int (2 : Int32))])
  refine own_if X0 hx 12 (hb hby d18_1) (by decide) (by decide) (fun _ => ?_) (fun hc => absurd (show ¬ (2 : Int32) < (0 : Int32) from by decide) (by first | exact hc | exact not_not_intro hc))
  show own_Go p e below _ s₁ (mkF m 12 #[.val (.int (2 : Int32))] [])
  refine own_by (fun t_ k_ => XS.iloadN X0.here hx rfl (hb hby d18_12) rfl k_) ?_
  show own_Go p e below _ s₁ (mkF m 13 #[.val (.int (2 : Int32))] [(.int (2 : Int32))])
  refine own_by (fun t_ k_ => X0.ldcInt hx hown (mvT hZ (own_w hw 95 rfl)) (g := (mkF m 13 #[.val (.int (2 : Int32))] [(.int (2 : Int32))])) rfl (hb hby d18_13) _ k_) ?_
  show own_Go p e below _ s₁ (mkF m 15 #[.val (.int (2 : Int32))] [(.int (1073741823 : Int32)), (.int (2 : Int32))])
  refine own_icmp X0 hx 55 (hb hby d18_15) (by decide) (by decide) (fun _ => ?_) (fun hc => absurd (show (2 : Int32) < (1073741823 : Int32) from by decide) (by first | exact hc | exact not_not_intro hc))
  show own_Go p e below _ s₁ (mkF m 55 #[.val (.int (2 : Int32))] [])
  refine own_by (fun t_ k_ => XS.iloadN X0.here hx rfl (hb hby d18_55) rfl k_) ?_
  show own_Go p e below _ s₁ (mkF m 56 #[.val (.int (2 : Int32))] [(.int (2 : Int32))])
  refine own_by (fun t_ k_ => XS.iconst X0.here hx rfl (hb hby d18_56) k_) ?_
  show own_Go p e below _ s₁ (mkF m 57 #[.val (.int (2 : Int32))] [(.int (1 : Int32)), (.int (2 : Int32))])
  refine own_by (fun t_ k_ => XT.ishl X0.here hx rfl (hb hby d18_57) rfl k_) ?_
  show own_Go p e below _ s₁ (mkF m 58 #[.val (.int (2 : Int32))] [(.int ((2 : Int32) <<< ((1 : Int32) &&& 31)))])
  refine own_retI X0 hx hlk Bd.returns (hb hby d18_58) e0 (by decide) (by decide) ?_
  exact ⟨congrArg some (congrArg Value.int (by decide)), N0, rfl⟩
theorem ef_17_2 (m : MethodId)  : entryFrame m #[(.int (2 : Int32))] 1 = mkF m 0 #[.val (.int (2 : Int32))] [] := by first | (simp [entryFrame, mkF, argsToLocals, Value.category]; done) | rfl
set_option maxRecDepth 65536 in
set_option maxHeartbeats 40000000 in
theorem rm17_2 (l : Launch) (Z : State) (a0 : Array Value) (hw : ∀ d ∈ tables_1, d.before a0 Z = true) (ws : List Jvm.Cond)  (h0 : Heap) (n0 : Nat) (Z0 : n0 ≤ h0.size) :
    MetFree l (⟨"java/lang/StringUTF16", "newBytesFor", "(I)[B"⟩ : MethodName) (head1 (Jvm.Cond.code (⟨"java/lang/StringUTF16", "newBytesFor", "(I)[B"⟩ : MethodName) jdk_52_method_2_code 1 (some (.array .byte)) :: ws) ({ frames := 1, cells := 1, slots := 4, locals := 12 } : Room)) (fun a U => a = #[(.int (2 : Int32))] ∧ Z.Warmed39 U.vm ∧ U.heap = h0) (fun _ _ _ _ _ => True) (fun _ U o U' => ∃ v L, o = .returned v ∧ QA Z [(.int (0 : Int32)), (.int (0 : Int32)), (.int (0 : Int32)), (.int (0 : Int32))] h0 n0 v U'.heap L ∧ FrameEnd U o U' L ({ frames := 1, cells := 1, slots := 4, locals := 12 } : Room).cells ({ frames := 1, cells := 1, slots := 4, locals := 12 } : Room).slots) := by
  refine MetFree.of_bodySF (plainFor_of_name pn_4) hisR ?_
  intro p e s m args below meth c s₁ Bd hml0 hP hK
  obtain ⟨rfl, hZ, hh⟩ := hP
  have hx := Bd.exec
  have hby := Bd.bytes
  have hml : c.maxLocals = 1 := hml0
  have hown : s.vm.findClass "java/lang/StringUTF16" = some m.cls := findClass_of_methodNamed Bd.named
  have hnm := (name_of_methodNamed Bd.named Bd.method).1
  have hlk : meth.locks = false := BodyLoose.notSynchronized Bd
  have X0 : Stand p l e ({ frames := 1, cells := 1, slots := 4, locals := 12 } : Room) s m #[(.int (2 : Int32))] below meth c s₁ [] 0 0 := Stand.of_body Bd
  have e0 : s₁.heap = h0 := by rw [← hh, Bd.state]; rfl
  have N0 := Fr.nil n0
  refine own_start (Q := QA Z [(.int (0 : Int32)), (.int (0 : Int32)), (.int (0 : Int32)), (.int (0 : Int32))] h0 n0) (ef_17_2 m ) ?_
  have K0 := Keep.refl h0 []
  show own_Go p e below _ s₁ (mkF m 0 #[.val (.int (2 : Int32))] [])
  refine own_by (fun t_ k_ => XS.iloadN X0.here hx rfl (hb hby d17_0) rfl k_) ?_
  show own_Go p e below _ s₁ (mkF m 1 #[.val (.int (2 : Int32))] [(.int (2 : Int32))])
  refine own_callS (W := 0) X0 hx hZ (y := (⟨"java/lang/StringUTF16", "newBytesLength", "(I)I"⟩ : MethodName)) hown (own_w hw 92 rfl) (own_w hw 93 rfl) (own_w hw 19 rfl) (own_w hw 94 rfl) (by decide) (by rw [hml]; rfl) (argsL := [(.int (2 : Int32))]) pd_14 rfl (rm18_2 l Z a0 hw [] h0 n0 Z0) (by decide) (by decide) (Nat.le_of_eq rfl) (by decide) (by decide) (rest := []) e0 rfl (hb hby d17_1) ?_
  intro v1 T1 L1 X1 hQ1
  obtain ⟨rfl, N1q, e1⟩ := hQ1
  have N1 := Fr.app N0 N1q
  show own_Go p e below _ T1 (mkF m 4 #[.val (.int (2 : Int32))] [(.int (4 : Int32))])
  refine own_newP X1 hx hZ (own_w hw 21 rfl) e1 (hb hby d17_4) 4 4 (by decide) (by decide) (by decide) (by decide) (by decide) ?_
  intro T2 h2 b2 X2 e2 g2 E2 A2
  have g_b2 : n0 ≤ b2 := Nat.le_trans Z0 (Nat.le_of_eq g2.symm)
  have sz2 : n0 ≤ h2.size := Nat.le_trans Z0 E2.1
  have szk_b2 : h0.size ≤ b2 := Nat.le_trans K0.1 (Nat.le_of_eq g2.symm)
  have K2 : Keep h0 h2 [] := K0.ext E2
  have V2_0 : own_Arr Z h2 b2 .byte [(.int (0 : Int32)), (.int (0 : Int32)), (.int (0 : Int32)), (.int (0 : Int32))] := A2
  show own_Go p e below _ T2 (mkF m 6 #[.val (.int (2 : Int32))] [(.ref b2)])
  refine own_retR X2 hx hlk Bd.returns rfl rfl rfl (hb hby d17_6) e2 (by decide) (by decide) ?_
  exact ⟨b2, rfl, N1, K2, szk_b2, V2_0⟩
theorem ef_16_2 (m : MethodId) (a1 : Addr) : entryFrame m #[(.ref a1), (.int (0 : Int32)), (.int (2 : Int32))] 5 = mkF m 0 #[.val (.ref a1), .val (.int (0 : Int32)), .val (.int (2 : Int32)), .unset, .unset] [] := by first | (simp [entryFrame, mkF, argsToLocals, Value.category]; done) | rfl
set_option maxRecDepth 65536 in
set_option maxHeartbeats 40000000 in
theorem rm16_2 (l : Launch) (Z : State) (a0 : Array Value) (hw : ∀ d ∈ tables_1, d.before a0 Z = true) (ws : List Jvm.Cond) (a1 : Addr) (c0 : Int32) (c1 : Int32) (h0 : Heap) (n0 : Nat) (Z0 : n0 ≤ h0.size) (S_ad : Sta Z h0 "java/lang/StringUTF16" "$assertionsDisabled" "Z" (.int (1 : Int32))) (S_hb : Sta Z h0 "java/lang/StringUTF16" "HI_BYTE_SHIFT" "I" (.int (0 : Int32))) (S_lb : Sta Z h0 "java/lang/StringUTF16" "LO_BYTE_SHIFT" "I" (.int (8 : Int32))) (V_a1 : own_Arr Z h0 a1 .char [(.int c0), (.int c1)]) :
    MetFree l (⟨"java/lang/StringUTF16", "toBytes", "([CII)[B"⟩ : MethodName) (head1 (Jvm.Cond.code (⟨"java/lang/StringUTF16", "toBytes", "([CII)[B"⟩ : MethodName) jdk_52_method_14_code 5 (some (.array .byte)) :: ws) ({ frames := 2, cells := 1, slots := 4, locals := 30 } : Room)) (fun a U => a = #[(.ref a1), (.int (0 : Int32)), (.int (2 : Int32))] ∧ Z.Warmed39 U.vm ∧ U.heap = h0) (fun _ _ _ _ _ => True) (fun _ U o U' => ∃ v L, o = .returned v ∧ QA Z [(.int (own_b0 c0)), (.int (own_b1 c0)), (.int (own_b0 c1)), (.int (own_b1 c1))] h0 n0 v U'.heap L ∧ FrameEnd U o U' L ({ frames := 2, cells := 1, slots := 4, locals := 30 } : Room).cells ({ frames := 2, cells := 1, slots := 4, locals := 30 } : Room).slots) := by
  refine MetFree.of_bodySF (plainFor_of_name pn_4) hisR ?_
  intro p e s m args below meth c s₁ Bd hml0 hP hK
  obtain ⟨rfl, hZ, hh⟩ := hP
  have hx := Bd.exec
  have hby := Bd.bytes
  have hml : c.maxLocals = 5 := hml0
  have hown : s.vm.findClass "java/lang/StringUTF16" = some m.cls := findClass_of_methodNamed Bd.named
  have hnm := (name_of_methodNamed Bd.named Bd.method).1
  have hlk : meth.locks = false := BodyLoose.notSynchronized Bd
  have X0 : Stand p l e ({ frames := 2, cells := 1, slots := 4, locals := 30 } : Room) s m #[(.ref a1), (.int (0 : Int32)), (.int (2 : Int32))] below meth c s₁ [] 0 0 := Stand.of_body Bd
  have e0 : s₁.heap = h0 := by rw [← hh, Bd.state]; rfl
  have N0 := Fr.nil n0
  refine own_start (Q := QA Z [(.int (own_b0 c0)), (.int (own_b1 c0)), (.int (own_b0 c1)), (.int (own_b1 c1))] h0 n0) (ef_16_2 m a1) ?_
  have K0 := Keep.refl h0 []
  show own_Go p e below _ s₁ (mkF m 0 #[.val (.ref a1), .val (.int (0 : Int32)), .val (.int (2 : Int32)), .unset, .unset] [])
  refine own_by (fun t_ k_ => XS.iloadN X0.here hx rfl (hb hby d16_0) rfl k_) ?_
  show own_Go p e below _ s₁ (mkF m 1 #[.val (.ref a1), .val (.int (0 : Int32)), .val (.int (2 : Int32)), .unset, .unset] [(.int (2 : Int32))])
  refine own_callS (W := 0) X0 hx hZ (y := (⟨"java/lang/StringUTF16", "newBytesFor", "(I)[B"⟩ : MethodName)) hown (own_w hw 89 rfl) (own_w hw 90 rfl) (own_w hw 19 rfl) (own_w hw 91 rfl) (by decide) (by rw [hml]; rfl) (argsL := [(.int (2 : Int32))]) pd_13 rfl (rm17_2 l Z a0 hw [] h0 n0 Z0) (by decide) (by decide) (Nat.le_of_eq rfl) (by decide) (by decide) (rest := []) e0 rfl (hb hby d16_1) ?_
  intro v1 T1 L1 X1 hQ1
  obtain ⟨r1, rfl, N1q, K1q, hb1, A1⟩ := hQ1
  have szk_r1 : h0.size ≤ r1 := Nat.le_trans K0.1 hb1
  have g_r1 : n0 ≤ r1 := Nat.le_trans Z0 hb1
  have lt_a1_r1 : a1 < r1 := Nat.lt_of_lt_of_le V_a1.lt hb1
  have N1 := Fr.app N0 N1q
  have sz1 : n0 ≤ T1.heap.size := Nat.le_trans Z0 K1q.1
  have K1 : Keep h0 T1.heap [] := K0.trans K1q (all0)
  show own_Go p e below _ T1 (mkF m 4 #[.val (.ref a1), .val (.int (0 : Int32)), .val (.int (2 : Int32)), .unset, .unset] [(.ref r1)])
  refine own_by (fun t_ k_ => XS.astoreN X1.here hx rfl (hb hby d16_4) rfl rfl (l' := #[.val (.ref a1), .val (.int (0 : Int32)), .val (.int (2 : Int32)), .val (.ref r1), .unset]) rfl k_) ?_
  show own_Go p e below _ T1 (mkF m 5 #[.val (.ref a1), .val (.int (0 : Int32)), .val (.int (2 : Int32)), .val (.ref r1), .unset] [])
  refine own_by (fun t_ k_ => XS.iconst X1.here hx rfl (hb hby d16_5) k_) ?_
  show own_Go p e below _ T1 (mkF m 6 #[.val (.ref a1), .val (.int (0 : Int32)), .val (.int (2 : Int32)), .val (.ref r1), .unset] [(.int (0 : Int32))])
  refine own_by (fun t_ k_ => XS.istore X1.here hx rfl (hb hby d16_6) rfl (l' := #[.val (.ref a1), .val (.int (0 : Int32)), .val (.int (2 : Int32)), .val (.ref r1), .val (.int (0 : Int32))]) rfl k_) ?_
  show own_Go p e below _ T1 (mkF m 8 #[.val (.ref a1), .val (.int (0 : Int32)), .val (.int (2 : Int32)), .val (.ref r1), .val (.int (0 : Int32))] [])
  refine own_by (fun t_ k_ => XS.iload X1.here hx rfl (hb hby d16_8) rfl k_) ?_
  show own_Go p e below _ T1 (mkF m 10 #[.val (.ref a1), .val (.int (0 : Int32)), .val (.int (2 : Int32)), .val (.ref r1), .val (.int (0 : Int32))] [(.int (0 : Int32))])
  refine own_by (fun t_ k_ => XS.iloadN X1.here hx rfl (hb hby d16_10) rfl k_) ?_
  show own_Go p e below _ T1 (mkF m 11 #[.val (.ref a1), .val (.int (0 : Int32)), .val (.int (2 : Int32)), .val (.ref r1), .val (.int (0 : Int32))] [(.int (2 : Int32)), (.int (0 : Int32))])
  refine own_icmp X1 hx 32 (hb hby d16_11) (by decide) (by decide) (fun hc => absurd (show (0 : Int32) < (2 : Int32) from by decide) (by first | exact hc | exact not_not_intro hc)) (fun _ => ?_)
  show own_Go p e below _ T1 (mkF m 14 #[.val (.ref a1), .val (.int (0 : Int32)), .val (.int (2 : Int32)), .val (.ref r1), .val (.int (0 : Int32))] [])
  refine own_by (fun t_ k_ => XS.aloadN X1.here hx rfl (hb hby d16_14) rfl rfl k_) ?_
  show own_Go p e below _ T1 (mkF m 15 #[.val (.ref a1), .val (.int (0 : Int32)), .val (.int (2 : Int32)), .val (.ref r1), .val (.int (0 : Int32))] [(.ref r1)])
  refine own_by (fun t_ k_ => XS.iload X1.here hx rfl (hb hby d16_15) rfl k_) ?_
  show own_Go p e below _ T1 (mkF m 17 #[.val (.ref a1), .val (.int (0 : Int32)), .val (.int (2 : Int32)), .val (.ref r1), .val (.int (0 : Int32))] [(.int (0 : Int32)), (.ref r1)])
  refine own_by (fun t_ k_ => XS.aloadN X1.here hx rfl (hb hby d16_17) rfl rfl k_) ?_
  show own_Go p e below _ T1 (mkF m 18 #[.val (.ref a1), .val (.int (0 : Int32)), .val (.int (2 : Int32)), .val (.ref r1), .val (.int (0 : Int32))] [(.ref a1), (.int (0 : Int32)), (.ref r1)])
  refine own_by (fun t_ k_ => XS.iloadN X1.here hx rfl (hb hby d16_18) rfl k_) ?_
  show own_Go p e below _ T1 (mkF m 19 #[.val (.ref a1), .val (.int (0 : Int32)), .val (.int (2 : Int32)), .val (.ref r1), .val (.int (0 : Int32))] [(.int (0 : Int32)), (.ref a1), (.int (0 : Int32)), (.ref r1)])
  have V_a1_2 : own_Arr Z T1.heap a1 .char [(.int c0), (.int c1)] := (own_Arr.keep V_a1 K1q nin0)
  refine own_caload X1 hx hZ rfl V_a1_2 (v := (.int c0)) 0 (by decide) rfl (hb hby d16_19) ?_
  show own_Go p e below _ T1 (mkF m 20 #[.val (.ref a1), .val (.int (0 : Int32)), .val (.int (2 : Int32)), .val (.ref r1), .val (.int (0 : Int32))] [(.int c0), (.int (0 : Int32)), (.ref r1)])
  have S_ad_3 : Sta Z T1.heap "java/lang/StringUTF16" "$assertionsDisabled" "Z" (.int (1 : Int32)) := (own_Sta_keep S_ad K1q ns0)
  have S_hb_4 : Sta Z T1.heap "java/lang/StringUTF16" "HI_BYTE_SHIFT" "I" (.int (0 : Int32)) := (own_Sta_keep S_hb K1q ns0)
  have S_lb_5 : Sta Z T1.heap "java/lang/StringUTF16" "LO_BYTE_SHIFT" "I" (.int (8 : Int32)) := (own_Sta_keep S_lb K1q ns0)
  refine own_callS (W := 0) X1 hx hZ (y := (⟨"java/lang/StringUTF16", "putChar", "([BII)V"⟩ : MethodName)) hown (own_w hw 96 rfl) (own_w hw 97 rfl) (own_w hw 19 rfl) (own_w hw 98 rfl) (by decide) (by rw [hml]; rfl) (argsL := [(.ref r1), (.int (0 : Int32)), (.int c0)]) pd_15 rfl (rm19 l Z a0 hw [] r1 (0 : Int32) c0 0 [(.int (0 : Int32)), (.int (0 : Int32)), (.int (0 : Int32)), (.int (0 : Int32))] T1.heap n0 sz1 S_ad_3 S_hb_4 S_lb_5 A1 g_r1 (by decide) (by simp) (by decide)) (by decide) (by decide) (Nat.le_of_eq rfl) (by decide) (by decide) (rest := []) rfl rfl (hb hby d16_20) ?_
  intro v6 T6 L6 X6 hQ6
  obtain ⟨rfl, N6q, K6q, A6⟩ := hQ6
  have N6 := Fr.app N1 N6q
  have sz6 : n0 ≤ T6.heap.size := Nat.le_trans sz1 K6q.1
  have K6 : Keep h0 T6.heap [] := K1.trans K6q (allS (Or.inr szk_r1) all0)
  have V6_0 : own_Arr Z T6.heap r1 .byte [(.int (own_b0 c0)), (.int (own_b1 c0)), (.int (0 : Int32)), (.int (0 : Int32))] := A6
  show own_Go p e below _ T6 (mkF m 23 #[.val (.ref a1), .val (.int (0 : Int32)), .val (.int (2 : Int32)), .val (.ref r1), .val (.int (0 : Int32))] [])
  refine own_by (fun t_ k_ => XS.iinc X6.here hx rfl (hb hby d16_23) rfl (l' := #[.val (.ref a1), .val (.int (1 : Int32)), .val (.int (2 : Int32)), .val (.ref r1), .val (.int (0 : Int32))]) rfl k_) ?_
  show own_Go p e below _ T6 (mkF m 26 #[.val (.ref a1), .val (.int (1 : Int32)), .val (.int (2 : Int32)), .val (.ref r1), .val (.int (0 : Int32))] [])
  refine own_by (fun t_ k_ => XS.iinc X6.here hx rfl (hb hby d16_26) rfl (l' := #[.val (.ref a1), .val (.int (1 : Int32)), .val (.int (2 : Int32)), .val (.ref r1), .val (.int (1 : Int32))]) rfl k_) ?_
  show own_Go p e below _ T6 (mkF m 29 #[.val (.ref a1), .val (.int (1 : Int32)), .val (.int (2 : Int32)), .val (.ref r1), .val (.int (1 : Int32))] [])
  refine own_by (fun t_ k_ => XS.goto X6.here hx rfl (pc0 := 29) (pc' := 8) rfl (hb hby d16_29) (by decide) (by decide) k_) ?_
  show own_Go p e below _ T6 (mkF m 8 #[.val (.ref a1), .val (.int (1 : Int32)), .val (.int (2 : Int32)), .val (.ref r1), .val (.int (1 : Int32))] [])
  refine own_by (fun t_ k_ => XS.iload X6.here hx rfl (hb hby d16_8) rfl k_) ?_
  show own_Go p e below _ T6 (mkF m 10 #[.val (.ref a1), .val (.int (1 : Int32)), .val (.int (2 : Int32)), .val (.ref r1), .val (.int (1 : Int32))] [(.int (1 : Int32))])
  refine own_by (fun t_ k_ => XS.iloadN X6.here hx rfl (hb hby d16_10) rfl k_) ?_
  show own_Go p e below _ T6 (mkF m 11 #[.val (.ref a1), .val (.int (1 : Int32)), .val (.int (2 : Int32)), .val (.ref r1), .val (.int (1 : Int32))] [(.int (2 : Int32)), (.int (1 : Int32))])
  refine own_icmp X6 hx 32 (hb hby d16_11) (by decide) (by decide) (fun hc => absurd (show (1 : Int32) < (2 : Int32) from by decide) (by first | exact hc | exact not_not_intro hc)) (fun _ => ?_)
  show own_Go p e below _ T6 (mkF m 14 #[.val (.ref a1), .val (.int (1 : Int32)), .val (.int (2 : Int32)), .val (.ref r1), .val (.int (1 : Int32))] [])
  refine own_by (fun t_ k_ => XS.aloadN X6.here hx rfl (hb hby d16_14) rfl rfl k_) ?_
  show own_Go p e below _ T6 (mkF m 15 #[.val (.ref a1), .val (.int (1 : Int32)), .val (.int (2 : Int32)), .val (.ref r1), .val (.int (1 : Int32))] [(.ref r1)])
  refine own_by (fun t_ k_ => XS.iload X6.here hx rfl (hb hby d16_15) rfl k_) ?_
  show own_Go p e below _ T6 (mkF m 17 #[.val (.ref a1), .val (.int (1 : Int32)), .val (.int (2 : Int32)), .val (.ref r1), .val (.int (1 : Int32))] [(.int (1 : Int32)), (.ref r1)])
  refine own_by (fun t_ k_ => XS.aloadN X6.here hx rfl (hb hby d16_17) rfl rfl k_) ?_
  show own_Go p e below _ T6 (mkF m 18 #[.val (.ref a1), .val (.int (1 : Int32)), .val (.int (2 : Int32)), .val (.ref r1), .val (.int (1 : Int32))] [(.ref a1), (.int (1 : Int32)), (.ref r1)])
  refine own_by (fun t_ k_ => XS.iloadN X6.here hx rfl (hb hby d16_18) rfl k_) ?_
  show own_Go p e below _ T6 (mkF m 19 #[.val (.ref a1), .val (.int (1 : Int32)), .val (.int (2 : Int32)), .val (.ref r1), .val (.int (1 : Int32))] [(.int (1 : Int32)), (.ref a1), (.int (1 : Int32)), (.ref r1)])
  have V_a1_7 : own_Arr Z T6.heap a1 .char [(.int c0), (.int c1)] := (own_Arr.keep V_a1_2 K6q (ninS (Nat.ne_of_lt lt_a1_r1) nin0))
  refine own_caload X6 hx hZ rfl V_a1_7 (v := (.int c1)) 1 (by decide) rfl (hb hby d16_19) ?_
  show own_Go p e below _ T6 (mkF m 20 #[.val (.ref a1), .val (.int (1 : Int32)), .val (.int (2 : Int32)), .val (.ref r1), .val (.int (1 : Int32))] [(.int c1), (.int (1 : Int32)), (.ref r1)])
  have S_ad_8 : Sta Z T6.heap "java/lang/StringUTF16" "$assertionsDisabled" "Z" (.int (1 : Int32)) := (own_Sta_keep S_ad_3 K6q (nsS (own_Arr.nostat A1) ns0))
  have S_hb_9 : Sta Z T6.heap "java/lang/StringUTF16" "HI_BYTE_SHIFT" "I" (.int (0 : Int32)) := (own_Sta_keep S_hb_4 K6q (nsS (own_Arr.nostat A1) ns0))
  have S_lb_10 : Sta Z T6.heap "java/lang/StringUTF16" "LO_BYTE_SHIFT" "I" (.int (8 : Int32)) := (own_Sta_keep S_lb_5 K6q (nsS (own_Arr.nostat A1) ns0))
  refine own_callS (W := 0) X6 hx hZ (y := (⟨"java/lang/StringUTF16", "putChar", "([BII)V"⟩ : MethodName)) hown (own_w hw 96 rfl) (own_w hw 97 rfl) (own_w hw 19 rfl) (own_w hw 98 rfl) (by decide) (by rw [hml]; rfl) (argsL := [(.ref r1), (.int (1 : Int32)), (.int c1)]) pd_15 rfl (rm19 l Z a0 hw [] r1 (1 : Int32) c1 2 [(.int (own_b0 c0)), (.int (own_b1 c0)), (.int (0 : Int32)), (.int (0 : Int32))] T6.heap n0 sz6 S_ad_8 S_hb_9 S_lb_10 V6_0 g_r1 (by decide) (by simp) (by decide)) (by decide) (by decide) (Nat.le_of_eq rfl) (by decide) (by decide) (rest := []) rfl rfl (hb hby d16_20) ?_
  intro v11 T11 L11 X11 hQ11
  obtain ⟨rfl, N11q, K11q, A11⟩ := hQ11
  have N11 := Fr.app N6 N11q
  have sz11 : n0 ≤ T11.heap.size := Nat.le_trans sz6 K11q.1
  have K11 : Keep h0 T11.heap [] := K6.trans K11q (allS (Or.inr szk_r1) all0)
  have V11_0 : own_Arr Z T11.heap r1 .byte [(.int (own_b0 c0)), (.int (own_b1 c0)), (.int (own_b0 c1)), (.int (own_b1 c1))] := A11
  show own_Go p e below _ T11 (mkF m 23 #[.val (.ref a1), .val (.int (1 : Int32)), .val (.int (2 : Int32)), .val (.ref r1), .val (.int (1 : Int32))] [])
  refine own_by (fun t_ k_ => XS.iinc X11.here hx rfl (hb hby d16_23) rfl (l' := #[.val (.ref a1), .val (.int (2 : Int32)), .val (.int (2 : Int32)), .val (.ref r1), .val (.int (1 : Int32))]) rfl k_) ?_
  show own_Go p e below _ T11 (mkF m 26 #[.val (.ref a1), .val (.int (2 : Int32)), .val (.int (2 : Int32)), .val (.ref r1), .val (.int (1 : Int32))] [])
  refine own_by (fun t_ k_ => XS.iinc X11.here hx rfl (hb hby d16_26) rfl (l' := #[.val (.ref a1), .val (.int (2 : Int32)), .val (.int (2 : Int32)), .val (.ref r1), .val (.int (2 : Int32))]) rfl k_) ?_
  show own_Go p e below _ T11 (mkF m 29 #[.val (.ref a1), .val (.int (2 : Int32)), .val (.int (2 : Int32)), .val (.ref r1), .val (.int (2 : Int32))] [])
  refine own_by (fun t_ k_ => XS.goto X11.here hx rfl (pc0 := 29) (pc' := 8) rfl (hb hby d16_29) (by decide) (by decide) k_) ?_
  show own_Go p e below _ T11 (mkF m 8 #[.val (.ref a1), .val (.int (2 : Int32)), .val (.int (2 : Int32)), .val (.ref r1), .val (.int (2 : Int32))] [])
  refine own_by (fun t_ k_ => XS.iload X11.here hx rfl (hb hby d16_8) rfl k_) ?_
  show own_Go p e below _ T11 (mkF m 10 #[.val (.ref a1), .val (.int (2 : Int32)), .val (.int (2 : Int32)), .val (.ref r1), .val (.int (2 : Int32))] [(.int (2 : Int32))])
  refine own_by (fun t_ k_ => XS.iloadN X11.here hx rfl (hb hby d16_10) rfl k_) ?_
  show own_Go p e below _ T11 (mkF m 11 #[.val (.ref a1), .val (.int (2 : Int32)), .val (.int (2 : Int32)), .val (.ref r1), .val (.int (2 : Int32))] [(.int (2 : Int32)), (.int (2 : Int32))])
  refine own_icmp X11 hx 32 (hb hby d16_11) (by decide) (by decide) (fun _ => ?_) (fun hc => absurd (show ¬ (2 : Int32) < (2 : Int32) from by decide) (by first | exact hc | exact not_not_intro hc))
  show own_Go p e below _ T11 (mkF m 32 #[.val (.ref a1), .val (.int (2 : Int32)), .val (.int (2 : Int32)), .val (.ref r1), .val (.int (2 : Int32))] [])
  refine own_by (fun t_ k_ => XS.aloadN X11.here hx rfl (hb hby d16_32) rfl rfl k_) ?_
  show own_Go p e below _ T11 (mkF m 33 #[.val (.ref a1), .val (.int (2 : Int32)), .val (.int (2 : Int32)), .val (.ref r1), .val (.int (2 : Int32))] [(.ref r1)])
  refine own_retR X11 hx hlk Bd.returns rfl rfl rfl (hb hby d16_33) rfl (by decide) (by decide) ?_
  exact ⟨r1, rfl, N11, K11, szk_r1, V11_0⟩
theorem ef_5_2 (m : MethodId) (a1 : Addr) (a2 : Addr) : entryFrame m #[(.ref a1), (.int (0 : Int32)), (.ref a2), (.int (0 : Int32)), (.int (2 : Int32))] 7 = mkF m 0 #[.val (.ref a1), .val (.int (0 : Int32)), .val (.ref a2), .val (.int (0 : Int32)), .val (.int (2 : Int32)), .unset, .unset] [] := by first | (simp [entryFrame, mkF, argsToLocals, Value.category]; done) | rfl
set_option maxRecDepth 65536 in
set_option maxHeartbeats 40000000 in
theorem rm5_2 (l : Launch) (Z : State) (a0 : Array Value) (hw : ∀ d ∈ tables_1, d.before a0 Z = true) (ws : List Jvm.Cond) (a1 : Addr) (a2 : Addr) (c0 : Int32) (c1 : Int32) (h0 : Heap) (n0 : Nat) (Z0 : n0 ≤ h0.size) (V_a1 : own_Arr Z h0 a1 .char [(.int c0), (.int c1)]) (V_a2 : own_Arr Z h0 a2 .byte [(.int (0 : Int32)), (.int (0 : Int32))]) (hne : a1 ≠ a2) (g_a2 : n0 ≤ a2) :
    MetFree l (⟨"java/lang/StringUTF16", "compress", "([CI[BII)I"⟩ : MethodName) (head1 (Jvm.Cond.code (⟨"java/lang/StringUTF16", "compress", "([CI[BII)I"⟩ : MethodName) jdk_52_method_21_code 7 (some .int) :: ws) ({ frames := 0, cells := 0, slots := 0, locals := 0 } : Room)) (fun a U => a = #[(.ref a1), (.int (0 : Int32)), (.ref a2), (.int (0 : Int32)), (.int (2 : Int32))] ∧ Z.Warmed39 U.vm ∧ U.heap = h0) (fun _ _ _ _ _ => True) (fun _ U o U' => ∃ v L, o = .returned v ∧ Q52 Z a2 c0 c1 h0 n0 v U'.heap L ∧ FrameEnd U o U' L ({ frames := 0, cells := 0, slots := 0, locals := 0 } : Room).cells ({ frames := 0, cells := 0, slots := 0, locals := 0 } : Room).slots) := by
  refine MetFree.of_bodySF (plainFor_of_name pn_4) hisR ?_
  intro p e s m args below meth c s₁ Bd hml0 hP hK
  obtain ⟨rfl, hZ, hh⟩ := hP
  have hx := Bd.exec
  have hby := Bd.bytes
  have hml : c.maxLocals = 7 := hml0
  have hown : s.vm.findClass "java/lang/StringUTF16" = some m.cls := findClass_of_methodNamed Bd.named
  have hnm := (name_of_methodNamed Bd.named Bd.method).1
  have hlk : meth.locks = false := BodyLoose.notSynchronized Bd
  have X0 : Stand p l e ({ frames := 0, cells := 0, slots := 0, locals := 0 } : Room) s m #[(.ref a1), (.int (0 : Int32)), (.ref a2), (.int (0 : Int32)), (.int (2 : Int32))] below meth c s₁ [] 0 0 := Stand.of_body Bd
  have e0 : s₁.heap = h0 := by rw [← hh, Bd.state]; rfl
  have N0 := Fr.nil n0
  refine own_start (Q := Q52 Z a2 c0 c1 h0 n0) (ef_5_2 m a1 a2) ?_
  have K0 := Keep.refl h0 [a2]
  show own_Go p e below _ s₁ (mkF m 0 #[.val (.ref a1), .val (.int (0 : Int32)), .val (.ref a2), .val (.int (0 : Int32)), .val (.int (2 : Int32)), .unset, .unset] [])
  refine own_by (fun t_ k_ => XS.iconst X0.here hx rfl (hb hby d5_0) k_) ?_
  show own_Go p e below _ s₁ (mkF m 1 #[.val (.ref a1), .val (.int (0 : Int32)), .val (.ref a2), .val (.int (0 : Int32)), .val (.int (2 : Int32)), .unset, .unset] [(.int (0 : Int32))])
  refine own_by (fun t_ k_ => XS.istore X0.here hx rfl (hb hby d5_1) rfl (l' := #[.val (.ref a1), .val (.int (0 : Int32)), .val (.ref a2), .val (.int (0 : Int32)), .val (.int (2 : Int32)), .val (.int (0 : Int32)), .unset]) rfl k_) ?_
  show own_Go p e below _ s₁ (mkF m 3 #[.val (.ref a1), .val (.int (0 : Int32)), .val (.ref a2), .val (.int (0 : Int32)), .val (.int (2 : Int32)), .val (.int (0 : Int32)), .unset] [])
  refine own_by (fun t_ k_ => XS.iload X0.here hx rfl (hb hby d5_3) rfl k_) ?_
  show own_Go p e below _ s₁ (mkF m 5 #[.val (.ref a1), .val (.int (0 : Int32)), .val (.ref a2), .val (.int (0 : Int32)), .val (.int (2 : Int32)), .val (.int (0 : Int32)), .unset] [(.int (0 : Int32))])
  refine own_by (fun t_ k_ => XS.iload X0.here hx rfl (hb hby d5_5) rfl k_) ?_
  show own_Go p e below _ s₁ (mkF m 7 #[.val (.ref a1), .val (.int (0 : Int32)), .val (.ref a2), .val (.int (0 : Int32)), .val (.int (2 : Int32)), .val (.int (0 : Int32)), .unset] [(.int (2 : Int32)), (.int (0 : Int32))])
  refine own_icmp X0 hx 44 (hb hby d5_7) (by decide) (by decide) (fun hc => absurd (show (0 : Int32) < (2 : Int32) from by decide) (by first | exact hc | exact not_not_intro hc)) (fun _ => ?_)
  show own_Go p e below _ s₁ (mkF m 10 #[.val (.ref a1), .val (.int (0 : Int32)), .val (.ref a2), .val (.int (0 : Int32)), .val (.int (2 : Int32)), .val (.int (0 : Int32)), .unset] [])
  refine own_by (fun t_ k_ => XS.aloadN X0.here hx rfl (hb hby d5_10) rfl rfl k_) ?_
  show own_Go p e below _ s₁ (mkF m 11 #[.val (.ref a1), .val (.int (0 : Int32)), .val (.ref a2), .val (.int (0 : Int32)), .val (.int (2 : Int32)), .val (.int (0 : Int32)), .unset] [(.ref a1)])
  refine own_by (fun t_ k_ => XS.iloadN X0.here hx rfl (hb hby d5_11) rfl k_) ?_
  show own_Go p e below _ s₁ (mkF m 12 #[.val (.ref a1), .val (.int (0 : Int32)), .val (.ref a2), .val (.int (0 : Int32)), .val (.int (2 : Int32)), .val (.int (0 : Int32)), .unset] [(.int (0 : Int32)), (.ref a1)])
  refine own_caload X0 hx hZ e0 V_a1 (v := (.int c0)) 0 (by decide) rfl (hb hby d5_12) ?_
  show own_Go p e below _ s₁ (mkF m 13 #[.val (.ref a1), .val (.int (0 : Int32)), .val (.ref a2), .val (.int (0 : Int32)), .val (.int (2 : Int32)), .val (.int (0 : Int32)), .unset] [(.int c0)])
  refine own_by (fun t_ k_ => XS.istore X0.here hx rfl (hb hby d5_13) rfl (l' := #[.val (.ref a1), .val (.int (0 : Int32)), .val (.ref a2), .val (.int (0 : Int32)), .val (.int (2 : Int32)), .val (.int (0 : Int32)), .val (.int c0)]) rfl k_) ?_
  show own_Go p e below _ s₁ (mkF m 15 #[.val (.ref a1), .val (.int (0 : Int32)), .val (.ref a2), .val (.int (0 : Int32)), .val (.int (2 : Int32)), .val (.int (0 : Int32)), .val (.int c0)] [])
  refine own_by (fun t_ k_ => XS.iload X0.here hx rfl (hb hby d5_15) rfl k_) ?_
  show own_Go p e below _ s₁ (mkF m 17 #[.val (.ref a1), .val (.int (0 : Int32)), .val (.ref a2), .val (.int (0 : Int32)), .val (.int (2 : Int32)), .val (.int (0 : Int32)), .val (.int c0)] [(.int c0)])
  refine own_by (fun t_ k_ => XS.sipush X0.here hx rfl (hb hby d5_17) k_) ?_
  show own_Go p e below _ s₁ (mkF m 20 #[.val (.ref a1), .val (.int (0 : Int32)), .val (.ref a2), .val (.int (0 : Int32)), .val (.int (2 : Int32)), .val (.int (0 : Int32)), .val (.int c0)] [(.int (255 : Int32)), (.int c0)])
  refine own_icmp X0 hx 26 (hb hby d5_20) (by decide) (by decide) (fun (hc20 : ¬ (255 : Int32) < c0) => ?_) (fun (hc20 : (255 : Int32) < c0) => ?_)
  · show own_Go p e below _ s₁ (mkF m 26 #[.val (.ref a1), .val (.int (0 : Int32)), .val (.ref a2), .val (.int (0 : Int32)), .val (.int (2 : Int32)), .val (.int (0 : Int32)), .val (.int c0)] [])
    refine own_by (fun t_ k_ => XS.aloadN X0.here hx rfl (hb hby d5_26) rfl rfl k_) ?_
    show own_Go p e below _ s₁ (mkF m 27 #[.val (.ref a1), .val (.int (0 : Int32)), .val (.ref a2), .val (.int (0 : Int32)), .val (.int (2 : Int32)), .val (.int (0 : Int32)), .val (.int c0)] [(.ref a2)])
    refine own_by (fun t_ k_ => XS.iloadN X0.here hx rfl (hb hby d5_27) rfl k_) ?_
    show own_Go p e below _ s₁ (mkF m 28 #[.val (.ref a1), .val (.int (0 : Int32)), .val (.ref a2), .val (.int (0 : Int32)), .val (.int (2 : Int32)), .val (.int (0 : Int32)), .val (.int c0)] [(.int (0 : Int32)), (.ref a2)])
    refine own_by (fun t_ k_ => XS.iload X0.here hx rfl (hb hby d5_28) rfl k_) ?_
    show own_Go p e below _ s₁ (mkF m 30 #[.val (.ref a1), .val (.int (0 : Int32)), .val (.ref a2), .val (.int (0 : Int32)), .val (.int (2 : Int32)), .val (.int (0 : Int32)), .val (.int c0)] [(.int c0), (.int (0 : Int32)), (.ref a2)])
    refine own_by (fun t_ k_ => XT.i2b X0.here hx rfl (hb hby d5_30) rfl k_) ?_
    show own_Go p e below _ s₁ (mkF m 31 #[.val (.ref a1), .val (.int (0 : Int32)), .val (.ref a2), .val (.int (0 : Int32)), .val (.int (2 : Int32)), .val (.int (0 : Int32)), .val (.int c0)] [(.int c0.toInt8.toInt32), (.int (0 : Int32)), (.ref a2)])
    refine own_bastore X0 hx hZ e0 V_a2 0 (by decide) (Nat.le_of_ble_eq_true rfl) (hb hby d5_31) ?_
    intro T1 h1 X1 e1 W1 A1
    have V1_0 : own_Arr Z h1 a2 .byte [(.int (nar .byte c0.toInt8.toInt32)), (.int (0 : Int32))] := A1
    have N1 := Fr.snoc X1 N0 g_a2
    have sz1 : n0 ≤ h1.size := Nat.le_trans Z0 (Keep.of_wr W1).1
    have K1 : Keep h0 h1 [a2] := K0.wr W1 (Or.inl (List.mem_cons_self ..))
    show own_Go p e below _ T1 (mkF m 32 #[.val (.ref a1), .val (.int (0 : Int32)), .val (.ref a2), .val (.int (0 : Int32)), .val (.int (2 : Int32)), .val (.int (0 : Int32)), .val (.int c0)] [])
    refine own_by (fun t_ k_ => XS.iinc X1.here hx rfl (hb hby d5_32) rfl (l' := #[.val (.ref a1), .val (.int (1 : Int32)), .val (.ref a2), .val (.int (0 : Int32)), .val (.int (2 : Int32)), .val (.int (0 : Int32)), .val (.int c0)]) rfl k_) ?_
    show own_Go p e below _ T1 (mkF m 35 #[.val (.ref a1), .val (.int (1 : Int32)), .val (.ref a2), .val (.int (0 : Int32)), .val (.int (2 : Int32)), .val (.int (0 : Int32)), .val (.int c0)] [])
    refine own_by (fun t_ k_ => XS.iinc X1.here hx rfl (hb hby d5_35) rfl (l' := #[.val (.ref a1), .val (.int (1 : Int32)), .val (.ref a2), .val (.int (1 : Int32)), .val (.int (2 : Int32)), .val (.int (0 : Int32)), .val (.int c0)]) rfl k_) ?_
    show own_Go p e below _ T1 (mkF m 38 #[.val (.ref a1), .val (.int (1 : Int32)), .val (.ref a2), .val (.int (1 : Int32)), .val (.int (2 : Int32)), .val (.int (0 : Int32)), .val (.int c0)] [])
    refine own_by (fun t_ k_ => XS.iinc X1.here hx rfl (hb hby d5_38) rfl (l' := #[.val (.ref a1), .val (.int (1 : Int32)), .val (.ref a2), .val (.int (1 : Int32)), .val (.int (2 : Int32)), .val (.int (1 : Int32)), .val (.int c0)]) rfl k_) ?_
    show own_Go p e below _ T1 (mkF m 41 #[.val (.ref a1), .val (.int (1 : Int32)), .val (.ref a2), .val (.int (1 : Int32)), .val (.int (2 : Int32)), .val (.int (1 : Int32)), .val (.int c0)] [])
    refine own_by (fun t_ k_ => XS.goto X1.here hx rfl (pc0 := 41) (pc' := 3) rfl (hb hby d5_41) (by decide) (by decide) k_) ?_
    show own_Go p e below _ T1 (mkF m 3 #[.val (.ref a1), .val (.int (1 : Int32)), .val (.ref a2), .val (.int (1 : Int32)), .val (.int (2 : Int32)), .val (.int (1 : Int32)), .val (.int c0)] [])
    refine own_by (fun t_ k_ => XS.iload X1.here hx rfl (hb hby d5_3) rfl k_) ?_
    show own_Go p e below _ T1 (mkF m 5 #[.val (.ref a1), .val (.int (1 : Int32)), .val (.ref a2), .val (.int (1 : Int32)), .val (.int (2 : Int32)), .val (.int (1 : Int32)), .val (.int c0)] [(.int (1 : Int32))])
    refine own_by (fun t_ k_ => XS.iload X1.here hx rfl (hb hby d5_5) rfl k_) ?_
    show own_Go p e below _ T1 (mkF m 7 #[.val (.ref a1), .val (.int (1 : Int32)), .val (.ref a2), .val (.int (1 : Int32)), .val (.int (2 : Int32)), .val (.int (1 : Int32)), .val (.int c0)] [(.int (2 : Int32)), (.int (1 : Int32))])
    refine own_icmp X1 hx 44 (hb hby d5_7) (by decide) (by decide) (fun hc => absurd (show (1 : Int32) < (2 : Int32) from by decide) (by first | exact hc | exact not_not_intro hc)) (fun _ => ?_)
    show own_Go p e below _ T1 (mkF m 10 #[.val (.ref a1), .val (.int (1 : Int32)), .val (.ref a2), .val (.int (1 : Int32)), .val (.int (2 : Int32)), .val (.int (1 : Int32)), .val (.int c0)] [])
    refine own_by (fun t_ k_ => XS.aloadN X1.here hx rfl (hb hby d5_10) rfl rfl k_) ?_
    show own_Go p e below _ T1 (mkF m 11 #[.val (.ref a1), .val (.int (1 : Int32)), .val (.ref a2), .val (.int (1 : Int32)), .val (.int (2 : Int32)), .val (.int (1 : Int32)), .val (.int c0)] [(.ref a1)])
    refine own_by (fun t_ k_ => XS.iloadN X1.here hx rfl (hb hby d5_11) rfl k_) ?_
    show own_Go p e below _ T1 (mkF m 12 #[.val (.ref a1), .val (.int (1 : Int32)), .val (.ref a2), .val (.int (1 : Int32)), .val (.int (2 : Int32)), .val (.int (1 : Int32)), .val (.int c0)] [(.int (1 : Int32)), (.ref a1)])
    have V_a1_2 : own_Arr Z h1 a1 .char [(.int c0), (.int c1)] := (own_Arr.other V_a1 W1 hne)
    refine own_caload X1 hx hZ e1 V_a1_2 (v := (.int c1)) 1 (by decide) rfl (hb hby d5_12) ?_
    show own_Go p e below _ T1 (mkF m 13 #[.val (.ref a1), .val (.int (1 : Int32)), .val (.ref a2), .val (.int (1 : Int32)), .val (.int (2 : Int32)), .val (.int (1 : Int32)), .val (.int c0)] [(.int c1)])
    refine own_by (fun t_ k_ => XS.istore X1.here hx rfl (hb hby d5_13) rfl (l' := #[.val (.ref a1), .val (.int (1 : Int32)), .val (.ref a2), .val (.int (1 : Int32)), .val (.int (2 : Int32)), .val (.int (1 : Int32)), .val (.int c1)]) rfl k_) ?_
    show own_Go p e below _ T1 (mkF m 15 #[.val (.ref a1), .val (.int (1 : Int32)), .val (.ref a2), .val (.int (1 : Int32)), .val (.int (2 : Int32)), .val (.int (1 : Int32)), .val (.int c1)] [])
    refine own_by (fun t_ k_ => XS.iload X1.here hx rfl (hb hby d5_15) rfl k_) ?_
    show own_Go p e below _ T1 (mkF m 17 #[.val (.ref a1), .val (.int (1 : Int32)), .val (.ref a2), .val (.int (1 : Int32)), .val (.int (2 : Int32)), .val (.int (1 : Int32)), .val (.int c1)] [(.int c1)])
    refine own_by (fun t_ k_ => XS.sipush X1.here hx rfl (hb hby d5_17) k_) ?_
    show own_Go p e below _ T1 (mkF m 20 #[.val (.ref a1), .val (.int (1 : Int32)), .val (.ref a2), .val (.int (1 : Int32)), .val (.int (2 : Int32)), .val (.int (1 : Int32)), .val (.int c1)] [(.int (255 : Int32)), (.int c1)])
    refine own_icmp X1 hx 26 (hb hby d5_20) (by decide) (by decide) (fun (hc20' : ¬ (255 : Int32) < c1) => ?_) (fun (hc20' : (255 : Int32) < c1) => ?_)
    · show own_Go p e below _ T1 (mkF m 26 #[.val (.ref a1), .val (.int (1 : Int32)), .val (.ref a2), .val (.int (1 : Int32)), .val (.int (2 : Int32)), .val (.int (1 : Int32)), .val (.int c1)] [])
      refine own_by (fun t_ k_ => XS.aloadN X1.here hx rfl (hb hby d5_26) rfl rfl k_) ?_
      show own_Go p e below _ T1 (mkF m 27 #[.val (.ref a1), .val (.int (1 : Int32)), .val (.ref a2), .val (.int (1 : Int32)), .val (.int (2 : Int32)), .val (.int (1 : Int32)), .val (.int c1)] [(.ref a2)])
      refine own_by (fun t_ k_ => XS.iloadN X1.here hx rfl (hb hby d5_27) rfl k_) ?_
      show own_Go p e below _ T1 (mkF m 28 #[.val (.ref a1), .val (.int (1 : Int32)), .val (.ref a2), .val (.int (1 : Int32)), .val (.int (2 : Int32)), .val (.int (1 : Int32)), .val (.int c1)] [(.int (1 : Int32)), (.ref a2)])
      refine own_by (fun t_ k_ => XS.iload X1.here hx rfl (hb hby d5_28) rfl k_) ?_
      show own_Go p e below _ T1 (mkF m 30 #[.val (.ref a1), .val (.int (1 : Int32)), .val (.ref a2), .val (.int (1 : Int32)), .val (.int (2 : Int32)), .val (.int (1 : Int32)), .val (.int c1)] [(.int c1), (.int (1 : Int32)), (.ref a2)])
      refine own_by (fun t_ k_ => XT.i2b X1.here hx rfl (hb hby d5_30) rfl k_) ?_
      show own_Go p e below _ T1 (mkF m 31 #[.val (.ref a1), .val (.int (1 : Int32)), .val (.ref a2), .val (.int (1 : Int32)), .val (.int (2 : Int32)), .val (.int (1 : Int32)), .val (.int c1)] [(.int c1.toInt8.toInt32), (.int (1 : Int32)), (.ref a2)])
      refine own_bastore X1 hx hZ e1 V1_0 1 (by decide) (Nat.le_of_ble_eq_true rfl) (hb hby d5_31) ?_
      intro T3 h3 X3 e3 W3 A3
      have V3_0 : own_Arr Z h3 a2 .byte [(.int (nar .byte c0.toInt8.toInt32)), (.int (nar .byte c1.toInt8.toInt32))] := A3
      have N3 := Fr.snoc X3 N1 g_a2
      have sz3 : n0 ≤ h3.size := Nat.le_trans sz1 (Keep.of_wr W3).1
      have K3 : Keep h0 h3 [a2] := K1.wr W3 (Or.inl (List.mem_cons_self ..))
      show own_Go p e below _ T3 (mkF m 32 #[.val (.ref a1), .val (.int (1 : Int32)), .val (.ref a2), .val (.int (1 : Int32)), .val (.int (2 : Int32)), .val (.int (1 : Int32)), .val (.int c1)] [])
      refine own_by (fun t_ k_ => XS.iinc X3.here hx rfl (hb hby d5_32) rfl (l' := #[.val (.ref a1), .val (.int (2 : Int32)), .val (.ref a2), .val (.int (1 : Int32)), .val (.int (2 : Int32)), .val (.int (1 : Int32)), .val (.int c1)]) rfl k_) ?_
      show own_Go p e below _ T3 (mkF m 35 #[.val (.ref a1), .val (.int (2 : Int32)), .val (.ref a2), .val (.int (1 : Int32)), .val (.int (2 : Int32)), .val (.int (1 : Int32)), .val (.int c1)] [])
      refine own_by (fun t_ k_ => XS.iinc X3.here hx rfl (hb hby d5_35) rfl (l' := #[.val (.ref a1), .val (.int (2 : Int32)), .val (.ref a2), .val (.int (2 : Int32)), .val (.int (2 : Int32)), .val (.int (1 : Int32)), .val (.int c1)]) rfl k_) ?_
      show own_Go p e below _ T3 (mkF m 38 #[.val (.ref a1), .val (.int (2 : Int32)), .val (.ref a2), .val (.int (2 : Int32)), .val (.int (2 : Int32)), .val (.int (1 : Int32)), .val (.int c1)] [])
      refine own_by (fun t_ k_ => XS.iinc X3.here hx rfl (hb hby d5_38) rfl (l' := #[.val (.ref a1), .val (.int (2 : Int32)), .val (.ref a2), .val (.int (2 : Int32)), .val (.int (2 : Int32)), .val (.int (2 : Int32)), .val (.int c1)]) rfl k_) ?_
      show own_Go p e below _ T3 (mkF m 41 #[.val (.ref a1), .val (.int (2 : Int32)), .val (.ref a2), .val (.int (2 : Int32)), .val (.int (2 : Int32)), .val (.int (2 : Int32)), .val (.int c1)] [])
      refine own_by (fun t_ k_ => XS.goto X3.here hx rfl (pc0 := 41) (pc' := 3) rfl (hb hby d5_41) (by decide) (by decide) k_) ?_
      show own_Go p e below _ T3 (mkF m 3 #[.val (.ref a1), .val (.int (2 : Int32)), .val (.ref a2), .val (.int (2 : Int32)), .val (.int (2 : Int32)), .val (.int (2 : Int32)), .val (.int c1)] [])
      refine own_by (fun t_ k_ => XS.iload X3.here hx rfl (hb hby d5_3) rfl k_) ?_
      show own_Go p e below _ T3 (mkF m 5 #[.val (.ref a1), .val (.int (2 : Int32)), .val (.ref a2), .val (.int (2 : Int32)), .val (.int (2 : Int32)), .val (.int (2 : Int32)), .val (.int c1)] [(.int (2 : Int32))])
      refine own_by (fun t_ k_ => XS.iload X3.here hx rfl (hb hby d5_5) rfl k_) ?_
      show own_Go p e below _ T3 (mkF m 7 #[.val (.ref a1), .val (.int (2 : Int32)), .val (.ref a2), .val (.int (2 : Int32)), .val (.int (2 : Int32)), .val (.int (2 : Int32)), .val (.int c1)] [(.int (2 : Int32)), (.int (2 : Int32))])
      refine own_icmp X3 hx 44 (hb hby d5_7) (by decide) (by decide) (fun _ => ?_) (fun hc => absurd (show ¬ (2 : Int32) < (2 : Int32) from by decide) (by first | exact hc | exact not_not_intro hc))
      show own_Go p e below _ T3 (mkF m 44 #[.val (.ref a1), .val (.int (2 : Int32)), .val (.ref a2), .val (.int (2 : Int32)), .val (.int (2 : Int32)), .val (.int (2 : Int32)), .val (.int c1)] [])
      refine own_by (fun t_ k_ => XS.iload X3.here hx rfl (hb hby d5_44) rfl k_) ?_
      show own_Go p e below _ T3 (mkF m 46 #[.val (.ref a1), .val (.int (2 : Int32)), .val (.ref a2), .val (.int (2 : Int32)), .val (.int (2 : Int32)), .val (.int (2 : Int32)), .val (.int c1)] [(.int (2 : Int32))])
      refine own_retI X3 hx hlk Bd.returns (hb hby d5_46) e3 (by decide) (by decide) ?_
      exact ⟨_, _, rfl, N3, K3, V3_0, rfl, Or.inl rfl⟩
    · show own_Go p e below _ T1 (mkF m 23 #[.val (.ref a1), .val (.int (1 : Int32)), .val (.ref a2), .val (.int (1 : Int32)), .val (.int (2 : Int32)), .val (.int (1 : Int32)), .val (.int c1)] [])
      refine own_by (fun t_ k_ => XS.iload X1.here hx rfl (hb hby d5_23) rfl k_) ?_
      show own_Go p e below _ T1 (mkF m 25 #[.val (.ref a1), .val (.int (1 : Int32)), .val (.ref a2), .val (.int (1 : Int32)), .val (.int (2 : Int32)), .val (.int (1 : Int32)), .val (.int c1)] [(.int (1 : Int32))])
      refine own_retI X1 hx hlk Bd.returns (hb hby d5_25) e1 (by decide) (by decide) ?_
      exact ⟨_, _, rfl, N1, K1, V1_0, rfl, Or.inr (Or.inr (⟨rfl, hc20'⟩))⟩
  · show own_Go p e below _ s₁ (mkF m 23 #[.val (.ref a1), .val (.int (0 : Int32)), .val (.ref a2), .val (.int (0 : Int32)), .val (.int (2 : Int32)), .val (.int (0 : Int32)), .val (.int c0)] [])
    refine own_by (fun t_ k_ => XS.iload X0.here hx rfl (hb hby d5_23) rfl k_) ?_
    show own_Go p e below _ s₁ (mkF m 25 #[.val (.ref a1), .val (.int (0 : Int32)), .val (.ref a2), .val (.int (0 : Int32)), .val (.int (2 : Int32)), .val (.int (0 : Int32)), .val (.int c0)] [(.int (0 : Int32))])
    refine own_retI X0 hx hlk Bd.returns (hb hby d5_25) e0 (by decide) (by decide) ?_
    exact ⟨_, _, rfl, N0, K0, V_a2, rfl, Or.inr (Or.inl ⟨rfl, hc20⟩)⟩
theorem ef_4_2 (m : MethodId) (a1 : Addr) : entryFrame m #[(.ref a1), (.int (0 : Int32)), (.int (2 : Int32))] 6 = mkF m 0 #[.val (.ref a1), .val (.int (0 : Int32)), .val (.int (2 : Int32)), .unset, .unset, .unset] [] := by first | (simp [entryFrame, mkF, argsToLocals, Value.category]; done) | rfl
set_option maxRecDepth 65536 in
set_option maxHeartbeats 40000000 in
theorem rm4_2 (l : Launch) (Z : State) (a0 : Array Value) (hw : ∀ d ∈ tables_1, d.before a0 Z = true) (ws : List Jvm.Cond) (a1 : Addr) (c0 : Int32) (c1 : Int32) (h0 : Heap) (n0 : Nat) (Z0 : n0 ≤ h0.size) (S_ad : Sta Z h0 "java/lang/StringUTF16" "$assertionsDisabled" "Z" (.int (1 : Int32))) (S_hb : Sta Z h0 "java/lang/StringUTF16" "HI_BYTE_SHIFT" "I" (.int (0 : Int32))) (S_lb : Sta Z h0 "java/lang/StringUTF16" "LO_BYTE_SHIFT" "I" (.int (8 : Int32))) (V_a1 : own_Arr Z h0 a1 .char [(.int c0), (.int c1)]) (ok0 : own_Ok c0) (ok1 : own_Ok c1) :
    MetFree l (⟨"java/lang/StringUTF16", "compress", "([CII)[B"⟩ : MethodName) (head1 (Jvm.Cond.code (⟨"java/lang/StringUTF16", "compress", "([CII)[B"⟩ : MethodName) jdk_52_method_16_code 6 (some (.array .byte)) :: ws) ({ frames := 3, cells := 2, slots := 6, locals := 50 } : Room)) (fun a U => a = #[(.ref a1), (.int (0 : Int32)), (.int (2 : Int32))] ∧ Z.Warmed39 U.vm ∧ U.heap = h0) (fun _ _ _ _ _ => True) (fun _ U o U' => ∃ v L, o = .returned v ∧ Q4 Z 2 h0 n0 v U'.heap L ∧ FrameEnd U o U' L ({ frames := 3, cells := 2, slots := 6, locals := 50 } : Room).cells ({ frames := 3, cells := 2, slots := 6, locals := 50 } : Room).slots) := by
  refine MetFree.of_bodySF (plainFor_of_name pn_4) hisR ?_
  intro p e s m args below meth c s₁ Bd hml0 hP hK
  obtain ⟨rfl, hZ, hh⟩ := hP
  have hx := Bd.exec
  have hby := Bd.bytes
  have hml : c.maxLocals = 6 := hml0
  have hown : s.vm.findClass "java/lang/StringUTF16" = some m.cls := findClass_of_methodNamed Bd.named
  have hnm := (name_of_methodNamed Bd.named Bd.method).1
  have hlk : meth.locks = false := BodyLoose.notSynchronized Bd
  have X0 : Stand p l e ({ frames := 3, cells := 2, slots := 6, locals := 50 } : Room) s m #[(.ref a1), (.int (0 : Int32)), (.int (2 : Int32))] below meth c s₁ [] 0 0 := Stand.of_body Bd
  have e0 : s₁.heap = h0 := by rw [← hh, Bd.state]; rfl
  have N0 := Fr.nil n0
  refine own_start (Q := Q4 Z 2 h0 n0) (ef_4_2 m a1) ?_
  have K0 := Keep.refl h0 []
  show own_Go p e below _ s₁ (mkF m 0 #[.val (.ref a1), .val (.int (0 : Int32)), .val (.int (2 : Int32)), .unset, .unset, .unset] [])
  refine own_by (fun t_ k_ => XS.iloadN X0.here hx rfl (hb hby d4_0) rfl k_) ?_
  show own_Go p e below _ s₁ (mkF m 1 #[.val (.ref a1), .val (.int (0 : Int32)), .val (.int (2 : Int32)), .unset, .unset, .unset] [(.int (2 : Int32))])
  refine own_newP X0 hx hZ (own_w hw 21 rfl) e0 (hb hby d4_1) 2 2 (by decide) (by decide) (by decide) (by decide) (by decide) ?_
  intro T1 h1 b1 X1 e1 g1 E1 A1
  have lt_a1_b1 : a1 < b1 := Nat.lt_of_lt_of_le V_a1.lt (Nat.le_of_eq g1.symm)
  have g_b1 : n0 ≤ b1 := Nat.le_trans Z0 (Nat.le_of_eq g1.symm)
  have sz1 : n0 ≤ h1.size := Nat.le_trans Z0 E1.1
  have szk_b1 : h0.size ≤ b1 := Nat.le_trans K0.1 (Nat.le_of_eq g1.symm)
  have K1 : Keep h0 h1 [] := K0.ext E1
  have V1_0 : own_Arr Z h1 b1 .byte [(.int (0 : Int32)), (.int (0 : Int32))] := A1
  show own_Go p e below _ T1 (mkF m 3 #[.val (.ref a1), .val (.int (0 : Int32)), .val (.int (2 : Int32)), .unset, .unset, .unset] [(.ref b1)])
  refine own_by (fun t_ k_ => XS.astoreN X1.here hx rfl (hb hby d4_3) rfl rfl (l' := #[.val (.ref a1), .val (.int (0 : Int32)), .val (.int (2 : Int32)), .val (.ref b1), .unset, .unset]) rfl k_) ?_
  show own_Go p e below _ T1 (mkF m 4 #[.val (.ref a1), .val (.int (0 : Int32)), .val (.int (2 : Int32)), .val (.ref b1), .unset, .unset] [])
  refine own_by (fun t_ k_ => XS.aloadN X1.here hx rfl (hb hby d4_4) rfl rfl k_) ?_
  show own_Go p e below _ T1 (mkF m 5 #[.val (.ref a1), .val (.int (0 : Int32)), .val (.int (2 : Int32)), .val (.ref b1), .unset, .unset] [(.ref a1)])
  refine own_by (fun t_ k_ => XS.iloadN X1.here hx rfl (hb hby d4_5) rfl k_) ?_
  show own_Go p e below _ T1 (mkF m 6 #[.val (.ref a1), .val (.int (0 : Int32)), .val (.int (2 : Int32)), .val (.ref b1), .unset, .unset] [(.int (0 : Int32)), (.ref a1)])
  refine own_by (fun t_ k_ => XS.aloadN X1.here hx rfl (hb hby d4_6) rfl rfl k_) ?_
  show own_Go p e below _ T1 (mkF m 7 #[.val (.ref a1), .val (.int (0 : Int32)), .val (.int (2 : Int32)), .val (.ref b1), .unset, .unset] [(.ref b1), (.int (0 : Int32)), (.ref a1)])
  refine own_by (fun t_ k_ => XS.iconst X1.here hx rfl (hb hby d4_7) k_) ?_
  show own_Go p e below _ T1 (mkF m 8 #[.val (.ref a1), .val (.int (0 : Int32)), .val (.int (2 : Int32)), .val (.ref b1), .unset, .unset] [(.int (0 : Int32)), (.ref b1), (.int (0 : Int32)), (.ref a1)])
  refine own_by (fun t_ k_ => XS.iloadN X1.here hx rfl (hb hby d4_8) rfl k_) ?_
  show own_Go p e below _ T1 (mkF m 9 #[.val (.ref a1), .val (.int (0 : Int32)), .val (.int (2 : Int32)), .val (.ref b1), .unset, .unset] [(.int (2 : Int32)), (.int (0 : Int32)), (.ref b1), (.int (0 : Int32)), (.ref a1)])
  have V_a1_2 : own_Arr Z h1 a1 .char [(.int c0), (.int c1)] := (own_Arr.ext V_a1 E1)
  refine own_callS (W := 0) X1 hx hZ (y := (⟨"java/lang/StringUTF16", "compress", "([CI[BII)I"⟩ : MethodName)) hown (own_w hw 22 rfl) (own_w hw 23 rfl) (own_w hw 19 rfl) (own_w hw 24 rfl) (by decide) (by rw [hml]; rfl) (argsL := [(.ref a1), (.int (0 : Int32)), (.ref b1), (.int (0 : Int32)), (.int (2 : Int32))]) pd_4 rfl (rm5_2 l Z a0 hw [] a1 b1 c0 c1 h1 n0 sz1 V_a1_2 V1_0 (Nat.ne_of_lt lt_a1_b1) g_b1) (by decide) (by decide) (Nat.le_of_eq rfl) (by decide) (by decide) (rest := []) e1 rfl (hb hby d4_9) ?_
  intro v3 T3 L3 X3 hQ3
  obtain ⟨z3, vs3, rfl, N3q, K3q, A3, hl3, hz3⟩ := hQ3
  have N3 := Fr.app N0 N3q
  have sz3 : n0 ≤ T3.heap.size := Nat.le_trans sz1 K3q.1
  have K3 : Keep h0 T3.heap [] := K1.trans K3q (allS (Or.inr szk_b1) all0)
  rcases hz3 with rfl | ⟨rfl, hbig⟩ | ⟨rfl, hbig⟩
  · show own_Go p e below _ T3 (mkF m 12 #[.val (.ref a1), .val (.int (0 : Int32)), .val (.int (2 : Int32)), .val (.ref b1), .unset, .unset] [(.int (2 : Int32))])
    refine own_by (fun t_ k_ => XS.istore X3.here hx rfl (hb hby d4_12) rfl (l' := #[.val (.ref a1), .val (.int (0 : Int32)), .val (.int (2 : Int32)), .val (.ref b1), .val (.int (2 : Int32)), .unset]) rfl k_) ?_
    show own_Go p e below _ T3 (mkF m 14 #[.val (.ref a1), .val (.int (0 : Int32)), .val (.int (2 : Int32)), .val (.ref b1), .val (.int (2 : Int32)), .unset] [])
    refine own_by (fun t_ k_ => XS.iload X3.here hx rfl (hb hby d4_14) rfl k_) ?_
    show own_Go p e below _ T3 (mkF m 16 #[.val (.ref a1), .val (.int (0 : Int32)), .val (.int (2 : Int32)), .val (.ref b1), .val (.int (2 : Int32)), .unset] [(.int (2 : Int32))])
    refine own_by (fun t_ k_ => XS.iloadN X3.here hx rfl (hb hby d4_16) rfl k_) ?_
    show own_Go p e below _ T3 (mkF m 17 #[.val (.ref a1), .val (.int (0 : Int32)), .val (.int (2 : Int32)), .val (.ref b1), .val (.int (2 : Int32)), .unset] [(.int (2 : Int32)), (.int (2 : Int32))])
    refine own_icmp X3 hx 57 (hb hby d4_17) (by decide) (by decide) (fun _ => ?_) (fun hc => absurd (show (2 : Int32) = (2 : Int32) from by decide) (by first | exact hc | exact not_not_intro hc))
    show own_Go p e below _ T3 (mkF m 57 #[.val (.ref a1), .val (.int (0 : Int32)), .val (.int (2 : Int32)), .val (.ref b1), .val (.int (2 : Int32)), .unset] [])
    refine own_by (fun t_ k_ => XS.aloadN X3.here hx rfl (hb hby d4_57) rfl rfl k_) ?_
    show own_Go p e below _ T3 (mkF m 58 #[.val (.ref a1), .val (.int (0 : Int32)), .val (.int (2 : Int32)), .val (.ref b1), .val (.int (2 : Int32)), .unset] [(.ref b1)])
    refine own_retR X3 hx hlk Bd.returns rfl rfl rfl (hb hby d4_58) rfl (by decide) (by decide) ?_
    exact ⟨b1, _, 2, rfl, N3, K3, A3, hl3, Or.inl rfl⟩
  · show own_Go p e below _ T3 (mkF m 12 #[.val (.ref a1), .val (.int (0 : Int32)), .val (.int (2 : Int32)), .val (.ref b1), .unset, .unset] [(.int (0 : Int32))])
    refine own_by (fun t_ k_ => XS.istore X3.here hx rfl (hb hby d4_12) rfl (l' := #[.val (.ref a1), .val (.int (0 : Int32)), .val (.int (2 : Int32)), .val (.ref b1), .val (.int (0 : Int32)), .unset]) rfl k_) ?_
    show own_Go p e below _ T3 (mkF m 14 #[.val (.ref a1), .val (.int (0 : Int32)), .val (.int (2 : Int32)), .val (.ref b1), .val (.int (0 : Int32)), .unset] [])
    refine own_by (fun t_ k_ => XS.iload X3.here hx rfl (hb hby d4_14) rfl k_) ?_
    show own_Go p e below _ T3 (mkF m 16 #[.val (.ref a1), .val (.int (0 : Int32)), .val (.int (2 : Int32)), .val (.ref b1), .val (.int (0 : Int32)), .unset] [(.int (0 : Int32))])
    refine own_by (fun t_ k_ => XS.iloadN X3.here hx rfl (hb hby d4_16) rfl k_) ?_
    show own_Go p e below _ T3 (mkF m 17 #[.val (.ref a1), .val (.int (0 : Int32)), .val (.int (2 : Int32)), .val (.ref b1), .val (.int (0 : Int32)), .unset] [(.int (2 : Int32)), (.int (0 : Int32))])
    refine own_icmp X3 hx 57 (hb hby d4_17) (by decide) (by decide) (fun hc => absurd (show ¬ (0 : Int32) = (2 : Int32) from by decide) (by first | exact hc | exact not_not_intro hc)) (fun _ => ?_)
    show own_Go p e below _ T3 (mkF m 20 #[.val (.ref a1), .val (.int (0 : Int32)), .val (.int (2 : Int32)), .val (.ref b1), .val (.int (0 : Int32)), .unset] [])
    refine own_by (fun t_ k_ => XS.aloadN X3.here hx rfl (hb hby d4_20) rfl rfl k_) ?_
    show own_Go p e below _ T3 (mkF m 21 #[.val (.ref a1), .val (.int (0 : Int32)), .val (.int (2 : Int32)), .val (.ref b1), .val (.int (0 : Int32)), .unset] [(.ref a1)])
    refine own_by (fun t_ k_ => XS.iloadN X3.here hx rfl (hb hby d4_21) rfl k_) ?_
    show own_Go p e below _ T3 (mkF m 22 #[.val (.ref a1), .val (.int (0 : Int32)), .val (.int (2 : Int32)), .val (.ref b1), .val (.int (0 : Int32)), .unset] [(.int (0 : Int32)), (.ref a1)])
    refine own_by (fun t_ k_ => XS.iloadN X3.here hx rfl (hb hby d4_22) rfl k_) ?_
    show own_Go p e below _ T3 (mkF m 23 #[.val (.ref a1), .val (.int (0 : Int32)), .val (.int (2 : Int32)), .val (.ref b1), .val (.int (0 : Int32)), .unset] [(.int (2 : Int32)), (.int (0 : Int32)), (.ref a1)])
    have V_a1_4 : own_Arr Z T3.heap a1 .char [(.int c0), (.int c1)] := (own_Arr.keep V_a1_2 K3q (ninS (Nat.ne_of_lt lt_a1_b1) nin0))
    have S_ad_5 : Sta Z T3.heap "java/lang/StringUTF16" "$assertionsDisabled" "Z" (.int (1 : Int32)) := (own_Sta_keep (Sta.ext E1 S_ad) K3q (nsS (own_Arr.nostat V1_0) ns0))
    have S_hb_6 : Sta Z T3.heap "java/lang/StringUTF16" "HI_BYTE_SHIFT" "I" (.int (0 : Int32)) := (own_Sta_keep (Sta.ext E1 S_hb) K3q (nsS (own_Arr.nostat V1_0) ns0))
    have S_lb_7 : Sta Z T3.heap "java/lang/StringUTF16" "LO_BYTE_SHIFT" "I" (.int (8 : Int32)) := (own_Sta_keep (Sta.ext E1 S_lb) K3q (nsS (own_Arr.nostat V1_0) ns0))
    refine own_callS (W := 0) X3 hx hZ (y := (⟨"java/lang/StringUTF16", "toBytes", "([CII)[B"⟩ : MethodName)) hown (own_w hw 86 rfl) (own_w hw 87 rfl) (own_w hw 19 rfl) (own_w hw 88 rfl) (by decide) (by rw [hml]; rfl) (argsL := [(.ref a1), (.int (0 : Int32)), (.int (2 : Int32))]) pd_3 rfl (rm16_2 l Z a0 hw [] a1 c0 c1 T3.heap n0 sz3 S_ad_5 S_hb_6 S_lb_7 V_a1_4) (by decide) (by decide) (Nat.le_of_eq rfl) (by decide) (by decide) (rest := []) rfl rfl (hb hby d4_23) ?_
    intro v8 T8 L8 X8 hQ8
    obtain ⟨r8, rfl, N8q, K8q, hb8, A8⟩ := hQ8
    have N8 := Fr.app N3 N8q
    have sz8 : n0 ≤ T8.heap.size := Nat.le_trans sz3 K8q.1
    have K8 : Keep h0 T8.heap [] := K3.trans K8q (all0)
    show own_Go p e below _ T8 (mkF m 26 #[.val (.ref a1), .val (.int (0 : Int32)), .val (.int (2 : Int32)), .val (.ref b1), .val (.int (0 : Int32)), .unset] [(.ref r8)])
    refine own_by (fun t_ k_ => XS.astore X8.here hx rfl (hb hby d4_26) rfl rfl (l' := #[.val (.ref a1), .val (.int (0 : Int32)), .val (.int (2 : Int32)), .val (.ref b1), .val (.int (0 : Int32)), .val (.ref r8)]) rfl k_) ?_
    show own_Go p e below _ T8 (mkF m 28 #[.val (.ref a1), .val (.int (0 : Int32)), .val (.int (2 : Int32)), .val (.ref b1), .val (.int (0 : Int32)), .val (.ref r8)] [])
    refine own_by (fun t_ k_ => XS.aload X8.here hx rfl (hb hby d4_28) rfl rfl k_) ?_
    show own_Go p e below _ T8 (mkF m 30 #[.val (.ref a1), .val (.int (0 : Int32)), .val (.int (2 : Int32)), .val (.ref b1), .val (.int (0 : Int32)), .val (.ref r8)] [(.ref r8)])
    refine own_by (fun t_ k_ => XS.iload X8.here hx rfl (hb hby d4_30) rfl k_) ?_
    show own_Go p e below _ T8 (mkF m 32 #[.val (.ref a1), .val (.int (0 : Int32)), .val (.int (2 : Int32)), .val (.ref b1), .val (.int (0 : Int32)), .val (.ref r8)] [(.int (0 : Int32)), (.ref r8)])
    have S_ad_9 : Sta Z T8.heap "java/lang/StringUTF16" "$assertionsDisabled" "Z" (.int (1 : Int32)) := (own_Sta_keep S_ad_5 K8q ns0)
    have S_hb_10 : Sta Z T8.heap "java/lang/StringUTF16" "HI_BYTE_SHIFT" "I" (.int (0 : Int32)) := (own_Sta_keep S_hb_6 K8q ns0)
    have S_lb_11 : Sta Z T8.heap "java/lang/StringUTF16" "LO_BYTE_SHIFT" "I" (.int (8 : Int32)) := (own_Sta_keep S_lb_7 K8q ns0)
    refine own_callS (W := 0) X8 hx hZ (y := (⟨"java/lang/StringUTF16", "getChar", "([BI)C"⟩ : MethodName)) hown (own_w hw 102 rfl) (own_w hw 103 rfl) (own_w hw 19 rfl) (own_w hw 104 rfl) (by decide) (by rw [hml]; rfl) (argsL := [(.ref r8), (.int (0 : Int32))]) pd_16 rfl (rm20 l Z a0 hw [] r8 (0 : Int32) 0 [(.int (own_b0 c0)), (.int (own_b1 c0)), (.int (own_b0 c1)), (.int (own_b1 c1))] (own_b0 c0) (own_b1 c0) T8.heap n0 sz8 S_ad_9 S_hb_10 S_lb_11 A8 (by decide) (by decide) rfl rfl) (by decide) (by decide) (Nat.le_of_eq rfl) (by decide) (by decide) (rest := []) rfl rfl (hb hby d4_32) ?_
    intro v12 T12 L12 X12 hQ12
    obtain ⟨rfl, N12q, e12⟩ := hQ12
    have N12 := Fr.app N8 N12q
    show own_Go p e below _ T12 (mkF m 35 #[.val (.ref a1), .val (.int (0 : Int32)), .val (.int (2 : Int32)), .val (.ref b1), .val (.int (0 : Int32)), .val (.ref r8)] [(.int (own_ch (own_b0 c0) (own_b1 c0)))])
    refine own_by (fun t_ k_ => XS.sipush X12.here hx rfl (hb hby d4_35) k_) ?_
    show own_Go p e below _ T12 (mkF m 38 #[.val (.ref a1), .val (.int (0 : Int32)), .val (.int (2 : Int32)), .val (.ref b1), .val (.int (0 : Int32)), .val (.ref r8)] [(.int (255 : Int32)), (.int (own_ch (own_b0 c0) (own_b1 c0)))])
    refine own_icmp X12 hx 54 (hb hby d4_38) (by decide) (by decide) (fun _ => ?_) (fun hc => absurd (show (255 : Int32) < (own_ch (own_b0 c0) (own_b1 c0)) from by rw [own_chb ok0]; exact hbig) (by first | exact hc | exact not_not_intro hc))
    show own_Go p e below _ T12 (mkF m 54 #[.val (.ref a1), .val (.int (0 : Int32)), .val (.int (2 : Int32)), .val (.ref b1), .val (.int (0 : Int32)), .val (.ref r8)] [])
    refine own_by (fun t_ k_ => XS.aload X12.here hx rfl (hb hby d4_54) rfl rfl k_) ?_
    show own_Go p e below _ T12 (mkF m 56 #[.val (.ref a1), .val (.int (0 : Int32)), .val (.int (2 : Int32)), .val (.ref b1), .val (.int (0 : Int32)), .val (.ref r8)] [(.ref r8)])
    refine own_retR X12 hx hlk Bd.returns rfl rfl rfl (hb hby d4_56) e12 (by decide) (by decide) ?_
    exact ⟨r8, _, 4, rfl, N12, K8, A8, rfl, Or.inr rfl⟩
  · show own_Go p e below _ T3 (mkF m 12 #[.val (.ref a1), .val (.int (0 : Int32)), .val (.int (2 : Int32)), .val (.ref b1), .unset, .unset] [(.int (1 : Int32))])
    refine own_by (fun t_ k_ => XS.istore X3.here hx rfl (hb hby d4_12) rfl (l' := #[.val (.ref a1), .val (.int (0 : Int32)), .val (.int (2 : Int32)), .val (.ref b1), .val (.int (1 : Int32)), .unset]) rfl k_) ?_
    show own_Go p e below _ T3 (mkF m 14 #[.val (.ref a1), .val (.int (0 : Int32)), .val (.int (2 : Int32)), .val (.ref b1), .val (.int (1 : Int32)), .unset] [])
    refine own_by (fun t_ k_ => XS.iload X3.here hx rfl (hb hby d4_14) rfl k_) ?_
    show own_Go p e below _ T3 (mkF m 16 #[.val (.ref a1), .val (.int (0 : Int32)), .val (.int (2 : Int32)), .val (.ref b1), .val (.int (1 : Int32)), .unset] [(.int (1 : Int32))])
    refine own_by (fun t_ k_ => XS.iloadN X3.here hx rfl (hb hby d4_16) rfl k_) ?_
    show own_Go p e below _ T3 (mkF m 17 #[.val (.ref a1), .val (.int (0 : Int32)), .val (.int (2 : Int32)), .val (.ref b1), .val (.int (1 : Int32)), .unset] [(.int (2 : Int32)), (.int (1 : Int32))])
    refine own_icmp X3 hx 57 (hb hby d4_17) (by decide) (by decide) (fun hc => absurd (show ¬ (1 : Int32) = (2 : Int32) from by decide) (by first | exact hc | exact not_not_intro hc)) (fun _ => ?_)
    show own_Go p e below _ T3 (mkF m 20 #[.val (.ref a1), .val (.int (0 : Int32)), .val (.int (2 : Int32)), .val (.ref b1), .val (.int (1 : Int32)), .unset] [])
    refine own_by (fun t_ k_ => XS.aloadN X3.here hx rfl (hb hby d4_20) rfl rfl k_) ?_
    show own_Go p e below _ T3 (mkF m 21 #[.val (.ref a1), .val (.int (0 : Int32)), .val (.int (2 : Int32)), .val (.ref b1), .val (.int (1 : Int32)), .unset] [(.ref a1)])
    refine own_by (fun t_ k_ => XS.iloadN X3.here hx rfl (hb hby d4_21) rfl k_) ?_
    show own_Go p e below _ T3 (mkF m 22 #[.val (.ref a1), .val (.int (0 : Int32)), .val (.int (2 : Int32)), .val (.ref b1), .val (.int (1 : Int32)), .unset] [(.int (0 : Int32)), (.ref a1)])
    refine own_by (fun t_ k_ => XS.iloadN X3.here hx rfl (hb hby d4_22) rfl k_) ?_
    show own_Go p e below _ T3 (mkF m 23 #[.val (.ref a1), .val (.int (0 : Int32)), .val (.int (2 : Int32)), .val (.ref b1), .val (.int (1 : Int32)), .unset] [(.int (2 : Int32)), (.int (0 : Int32)), (.ref a1)])
    have V_a1_13 : own_Arr Z T3.heap a1 .char [(.int c0), (.int c1)] := (own_Arr.keep V_a1_2 K3q (ninS (Nat.ne_of_lt lt_a1_b1) nin0))
    have S_ad_14 : Sta Z T3.heap "java/lang/StringUTF16" "$assertionsDisabled" "Z" (.int (1 : Int32)) := (own_Sta_keep (Sta.ext E1 S_ad) K3q (nsS (own_Arr.nostat V1_0) ns0))
    have S_hb_15 : Sta Z T3.heap "java/lang/StringUTF16" "HI_BYTE_SHIFT" "I" (.int (0 : Int32)) := (own_Sta_keep (Sta.ext E1 S_hb) K3q (nsS (own_Arr.nostat V1_0) ns0))
    have S_lb_16 : Sta Z T3.heap "java/lang/StringUTF16" "LO_BYTE_SHIFT" "I" (.int (8 : Int32)) := (own_Sta_keep (Sta.ext E1 S_lb) K3q (nsS (own_Arr.nostat V1_0) ns0))
    refine own_callS (W := 0) X3 hx hZ (y := (⟨"java/lang/StringUTF16", "toBytes", "([CII)[B"⟩ : MethodName)) hown (own_w hw 86 rfl) (own_w hw 87 rfl) (own_w hw 19 rfl) (own_w hw 88 rfl) (by decide) (by rw [hml]; rfl) (argsL := [(.ref a1), (.int (0 : Int32)), (.int (2 : Int32))]) pd_3 rfl (rm16_2 l Z a0 hw [] a1 c0 c1 T3.heap n0 sz3 S_ad_14 S_hb_15 S_lb_16 V_a1_13) (by decide) (by decide) (Nat.le_of_eq rfl) (by decide) (by decide) (rest := []) rfl rfl (hb hby d4_23) ?_
    intro v17 T17 L17 X17 hQ17
    obtain ⟨r17, rfl, N17q, K17q, hb17, A17⟩ := hQ17
    have N17 := Fr.app N3 N17q
    have sz17 : n0 ≤ T17.heap.size := Nat.le_trans sz3 K17q.1
    have K17 : Keep h0 T17.heap [] := K3.trans K17q (all0)
    show own_Go p e below _ T17 (mkF m 26 #[.val (.ref a1), .val (.int (0 : Int32)), .val (.int (2 : Int32)), .val (.ref b1), .val (.int (1 : Int32)), .unset] [(.ref r17)])
    refine own_by (fun t_ k_ => XS.astore X17.here hx rfl (hb hby d4_26) rfl rfl (l' := #[.val (.ref a1), .val (.int (0 : Int32)), .val (.int (2 : Int32)), .val (.ref b1), .val (.int (1 : Int32)), .val (.ref r17)]) rfl k_) ?_
    show own_Go p e below _ T17 (mkF m 28 #[.val (.ref a1), .val (.int (0 : Int32)), .val (.int (2 : Int32)), .val (.ref b1), .val (.int (1 : Int32)), .val (.ref r17)] [])
    refine own_by (fun t_ k_ => XS.aload X17.here hx rfl (hb hby d4_28) rfl rfl k_) ?_
    show own_Go p e below _ T17 (mkF m 30 #[.val (.ref a1), .val (.int (0 : Int32)), .val (.int (2 : Int32)), .val (.ref b1), .val (.int (1 : Int32)), .val (.ref r17)] [(.ref r17)])
    refine own_by (fun t_ k_ => XS.iload X17.here hx rfl (hb hby d4_30) rfl k_) ?_
    show own_Go p e below _ T17 (mkF m 32 #[.val (.ref a1), .val (.int (0 : Int32)), .val (.int (2 : Int32)), .val (.ref b1), .val (.int (1 : Int32)), .val (.ref r17)] [(.int (1 : Int32)), (.ref r17)])
    have S_ad_18 : Sta Z T17.heap "java/lang/StringUTF16" "$assertionsDisabled" "Z" (.int (1 : Int32)) := (own_Sta_keep S_ad_14 K17q ns0)
    have S_hb_19 : Sta Z T17.heap "java/lang/StringUTF16" "HI_BYTE_SHIFT" "I" (.int (0 : Int32)) := (own_Sta_keep S_hb_15 K17q ns0)
    have S_lb_20 : Sta Z T17.heap "java/lang/StringUTF16" "LO_BYTE_SHIFT" "I" (.int (8 : Int32)) := (own_Sta_keep S_lb_16 K17q ns0)
    refine own_callS (W := 0) X17 hx hZ (y := (⟨"java/lang/StringUTF16", "getChar", "([BI)C"⟩ : MethodName)) hown (own_w hw 102 rfl) (own_w hw 103 rfl) (own_w hw 19 rfl) (own_w hw 104 rfl) (by decide) (by rw [hml]; rfl) (argsL := [(.ref r17), (.int (1 : Int32))]) pd_16 rfl (rm20 l Z a0 hw [] r17 (1 : Int32) 2 [(.int (own_b0 c0)), (.int (own_b1 c0)), (.int (own_b0 c1)), (.int (own_b1 c1))] (own_b0 c1) (own_b1 c1) T17.heap n0 sz17 S_ad_18 S_hb_19 S_lb_20 A17 (by decide) (by decide) rfl rfl) (by decide) (by decide) (Nat.le_of_eq rfl) (by decide) (by decide) (rest := []) rfl rfl (hb hby d4_32) ?_
    intro v21 T21 L21 X21 hQ21
    obtain ⟨rfl, N21q, e21⟩ := hQ21
    have N21 := Fr.app N17 N21q
    show own_Go p e below _ T21 (mkF m 35 #[.val (.ref a1), .val (.int (0 : Int32)), .val (.int (2 : Int32)), .val (.ref b1), .val (.int (1 : Int32)), .val (.ref r17)] [(.int (own_ch (own_b0 c1) (own_b1 c1)))])
    refine own_by (fun t_ k_ => XS.sipush X21.here hx rfl (hb hby d4_35) k_) ?_
    show own_Go p e below _ T21 (mkF m 38 #[.val (.ref a1), .val (.int (0 : Int32)), .val (.int (2 : Int32)), .val (.ref b1), .val (.int (1 : Int32)), .val (.ref r17)] [(.int (255 : Int32)), (.int (own_ch (own_b0 c1) (own_b1 c1)))])
    refine own_icmp X21 hx 54 (hb hby d4_38) (by decide) (by decide) (fun _ => ?_) (fun hc => absurd (show (255 : Int32) < (own_ch (own_b0 c1) (own_b1 c1)) from by rw [own_chb ok1]; exact hbig) (by first | exact hc | exact not_not_intro hc))
    show own_Go p e below _ T21 (mkF m 54 #[.val (.ref a1), .val (.int (0 : Int32)), .val (.int (2 : Int32)), .val (.ref b1), .val (.int (1 : Int32)), .val (.ref r17)] [])
    refine own_by (fun t_ k_ => XS.aload X21.here hx rfl (hb hby d4_54) rfl rfl k_) ?_
    show own_Go p e below _ T21 (mkF m 56 #[.val (.ref a1), .val (.int (0 : Int32)), .val (.int (2 : Int32)), .val (.ref b1), .val (.int (1 : Int32)), .val (.ref r17)] [(.ref r17)])
    refine own_retR X21 hx hlk Bd.returns rfl rfl rfl (hb hby d4_56) e21 (by decide) (by decide) ?_
    exact ⟨r17, _, 4, rfl, N21, K17, A17, rfl, Or.inr rfl⟩
theorem ef_6_2_2 (m : MethodId) (a1 : Addr) : entryFrame m #[(.ref a1), (.int (2 : Int32))] 2 = mkF m 0 #[.val (.ref a1), .val (.int (2 : Int32))] [] := by first | (simp [entryFrame, mkF, argsToLocals, Value.category]; done) | rfl
set_option maxRecDepth 65536 in
set_option maxHeartbeats 40000000 in
theorem rm6_2_2 (l : Launch) (Z : State) (a0 : Array Value) (hw : ∀ d ∈ tables_1, d.before a0 Z = true) (ws : List Jvm.Cond) (a1 : Addr) (vs : List Value) (h0 : Heap) (n0 : Nat) (Z0 : n0 ≤ h0.size) (V_a1 : own_Arr Z h0 a1 .byte vs) (hl : vs.length = 2) :
    MetFree l (⟨"java/lang/StringUTF16", "coderFromArrayLen", "([BI)B"⟩ : MethodName) (head1 (Jvm.Cond.code (⟨"java/lang/StringUTF16", "coderFromArrayLen", "([BI)B"⟩ : MethodName) jdk_52_method_15_code 2 (some .byte) :: ws) ({ frames := 0, cells := 0, slots := 0, locals := 0 } : Room)) (fun a U => a = #[(.ref a1), (.int (2 : Int32))] ∧ Z.Warmed39 U.vm ∧ U.heap = h0) (fun _ _ _ _ _ => True) (fun _ U o U' => ∃ v L, o = .returned v ∧ QI 0 h0 n0 v U'.heap L ∧ FrameEnd U o U' L ({ frames := 0, cells := 0, slots := 0, locals := 0 } : Room).cells ({ frames := 0, cells := 0, slots := 0, locals := 0 } : Room).slots) := by
  refine MetFree.of_bodySF (plainFor_of_name pn_4) hisR ?_
  intro p e s m args below meth c s₁ Bd hml0 hP hK
  obtain ⟨rfl, hZ, hh⟩ := hP
  have hx := Bd.exec
  have hby := Bd.bytes
  have hml : c.maxLocals = 2 := hml0
  have hown : s.vm.findClass "java/lang/StringUTF16" = some m.cls := findClass_of_methodNamed Bd.named
  have hnm := (name_of_methodNamed Bd.named Bd.method).1
  have hlk : meth.locks = false := BodyLoose.notSynchronized Bd
  have X0 : Stand p l e ({ frames := 0, cells := 0, slots := 0, locals := 0 } : Room) s m #[(.ref a1), (.int (2 : Int32))] below meth c s₁ [] 0 0 := Stand.of_body Bd
  have e0 : s₁.heap = h0 := by rw [← hh, Bd.state]; rfl
  have N0 := Fr.nil n0
  refine own_start (Q := QI 0 h0 n0) (ef_6_2_2 m a1) ?_
  show own_Go p e below _ s₁ (mkF m 0 #[.val (.ref a1), .val (.int (2 : Int32))] [])
  refine own_by (fun t_ k_ => XS.iloadN X0.here hx rfl (hb hby d6_0) rfl k_) ?_
  show own_Go p e below _ s₁ (mkF m 1 #[.val (.ref a1), .val (.int (2 : Int32))] [(.int (2 : Int32))])
  refine own_by (fun t_ k_ => XS.aloadN X0.here hx rfl (hb hby d6_1) rfl rfl k_) ?_
  show own_Go p e below _ s₁ (mkF m 2 #[.val (.ref a1), .val (.int (2 : Int32))] [(.ref a1), (.int (2 : Int32))])
  refine own_alenK X0 hx hZ e0 V_a1 2 hl rfl (hb hby d6_2) ?_
  show own_Go p e below _ s₁ (mkF m 3 #[.val (.ref a1), .val (.int (2 : Int32))] [(.int (2 : Int32)), (.int (2 : Int32))])
  refine own_by (fun t_ k_ => XS.isub X0.here hx rfl (hb hby d6_3) rfl k_) ?_
  show own_Go p e below _ s₁ (mkF m 4 #[.val (.ref a1), .val (.int (2 : Int32))] [(.int (0 : Int32))])
  refine own_by (fun t_ k_ => XS.bipush X0.here hx rfl (hb hby d6_4) k_) ?_
  show own_Go p e below _ s₁ (mkF m 6 #[.val (.ref a1), .val (.int (2 : Int32))] [(.int (31 : Int32)), (.int (0 : Int32))])
  refine own_by (fun t_ k_ => XT.iushr X0.here hx rfl (hb hby d6_6) rfl k_) ?_
  show own_Go p e below _ s₁ (mkF m 7 #[.val (.ref a1), .val (.int (2 : Int32))] [(.int (XT.ushr (0 : Int32) (31 : Int32)))])
  refine own_by (fun t_ k_ => XT.i2b X0.here hx rfl (hb hby d6_7) rfl k_) ?_
  show own_Go p e below _ s₁ (mkF m 8 #[.val (.ref a1), .val (.int (2 : Int32))] [(.int (XT.ushr (0 : Int32) (31 : Int32)).toInt8.toInt32)])
  refine own_ret X0 hx hlk Bd.returns (t := .byte) (Or.inl ⟨rfl, by simp, _, rfl⟩) (by first | rfl | decide) (hb hby d6_8) e0 (by decide) (by decide) ?_
  exact ⟨congrArg some (congrArg Value.int (by decide)), N0, rfl⟩
theorem ef_6_2_4 (m : MethodId) (a1 : Addr) : entryFrame m #[(.ref a1), (.int (2 : Int32))] 2 = mkF m 0 #[.val (.ref a1), .val (.int (2 : Int32))] [] := by first | (simp [entryFrame, mkF, argsToLocals, Value.category]; done) | rfl
set_option maxRecDepth 65536 in
set_option maxHeartbeats 40000000 in
theorem rm6_2_4 (l : Launch) (Z : State) (a0 : Array Value) (hw : ∀ d ∈ tables_1, d.before a0 Z = true) (ws : List Jvm.Cond) (a1 : Addr) (vs : List Value) (h0 : Heap) (n0 : Nat) (Z0 : n0 ≤ h0.size) (V_a1 : own_Arr Z h0 a1 .byte vs) (hl : vs.length = 4) :
    MetFree l (⟨"java/lang/StringUTF16", "coderFromArrayLen", "([BI)B"⟩ : MethodName) (head1 (Jvm.Cond.code (⟨"java/lang/StringUTF16", "coderFromArrayLen", "([BI)B"⟩ : MethodName) jdk_52_method_15_code 2 (some .byte) :: ws) ({ frames := 0, cells := 0, slots := 0, locals := 0 } : Room)) (fun a U => a = #[(.ref a1), (.int (2 : Int32))] ∧ Z.Warmed39 U.vm ∧ U.heap = h0) (fun _ _ _ _ _ => True) (fun _ U o U' => ∃ v L, o = .returned v ∧ QI 1 h0 n0 v U'.heap L ∧ FrameEnd U o U' L ({ frames := 0, cells := 0, slots := 0, locals := 0 } : Room).cells ({ frames := 0, cells := 0, slots := 0, locals := 0 } : Room).slots) := by
  refine MetFree.of_bodySF (plainFor_of_name pn_4) hisR ?_
  intro p e s m args below meth c s₁ Bd hml0 hP hK
  obtain ⟨rfl, hZ, hh⟩ := hP
  have hx := Bd.exec
  have hby := Bd.bytes
  have hml : c.maxLocals = 2 := hml0
  have hown : s.vm.findClass "java/lang/StringUTF16" = some m.cls := findClass_of_methodNamed Bd.named
  have hnm := (name_of_methodNamed Bd.named Bd.method).1
  have hlk : meth.locks = false := BodyLoose.notSynchronized Bd
  have X0 : Stand p l e ({ frames := 0, cells := 0, slots := 0, locals := 0 } : Room) s m #[(.ref a1), (.int (2 : Int32))] below meth c s₁ [] 0 0 := Stand.of_body Bd
  have e0 : s₁.heap = h0 := by rw [← hh, Bd.state]; rfl
  have N0 := Fr.nil n0
  refine own_start (Q := QI 1 h0 n0) (ef_6_2_4 m a1) ?_
  show own_Go p e below _ s₁ (mkF m 0 #[.val (.ref a1), .val (.int (2 : Int32))] [])
  refine own_by (fun t_ k_ => XS.iloadN X0.here hx rfl (hb hby d6_0) rfl k_) ?_
  show own_Go p e below _ s₁ (mkF m 1 #[.val (.ref a1), .val (.int (2 : Int32))] [(.int (2 : Int32))])
  refine own_by (fun t_ k_ => XS.aloadN X0.here hx rfl (hb hby d6_1) rfl rfl k_) ?_
  show own_Go p e below _ s₁ (mkF m 2 #[.val (.ref a1), .val (.int (2 : Int32))] [(.ref a1), (.int (2 : Int32))])
  refine own_alenK X0 hx hZ e0 V_a1 4 hl rfl (hb hby d6_2) ?_
  show own_Go p e below _ s₁ (mkF m 3 #[.val (.ref a1), .val (.int (2 : Int32))] [(.int (4 : Int32)), (.int (2 : Int32))])
  refine own_by (fun t_ k_ => XS.isub X0.here hx rfl (hb hby d6_3) rfl k_) ?_
  show own_Go p e below _ s₁ (mkF m 4 #[.val (.ref a1), .val (.int (2 : Int32))] [(.int (-2 : Int32))])
  refine own_by (fun t_ k_ => XS.bipush X0.here hx rfl (hb hby d6_4) k_) ?_
  show own_Go p e below _ s₁ (mkF m 6 #[.val (.ref a1), .val (.int (2 : Int32))] [(.int (31 : Int32)), (.int (-2 : Int32))])
  refine own_by (fun t_ k_ => XT.iushr X0.here hx rfl (hb hby d6_6) rfl k_) ?_
  show own_Go p e below _ s₁ (mkF m 7 #[.val (.ref a1), .val (.int (2 : Int32))] [(.int (XT.ushr (-2 : Int32) (31 : Int32)))])
  refine own_by (fun t_ k_ => XT.i2b X0.here hx rfl (hb hby d6_7) rfl k_) ?_
  show own_Go p e below _ s₁ (mkF m 8 #[.val (.ref a1), .val (.int (2 : Int32))] [(.int (XT.ushr (-2 : Int32) (31 : Int32)).toInt8.toInt32)])
  refine own_ret X0 hx hlk Bd.returns (t := .byte) (Or.inl ⟨rfl, by simp, _, rfl⟩) (by first | rfl | decide) (hb hby d6_8) e0 (by decide) (by decide) ?_
  exact ⟨congrArg some (congrArg Value.int (by decide)), N0, rfl⟩
theorem ef_2_2 (m : MethodId) (a1 : Addr) (a2 : Addr) : entryFrame m #[(.ref a1), (.ref a2), (.int (0 : Int32)), (.int (2 : Int32)), .null] 6 = mkF m 0 #[.val (.ref a1), .val (.ref a2), .val (.int (0 : Int32)), .val (.int (2 : Int32)), .val .null, .unset] [] := by first | (simp [entryFrame, mkF, argsToLocals, Value.category]; done) | rfl
set_option maxRecDepth 65536 in
set_option maxHeartbeats 40000000 in
theorem rm2_2 (l : Launch) (Z : State) (a0 : Array Value) (hw : ∀ d ∈ tables_1, d.before a0 Z = true) (ws : List Jvm.Cond) (a1 : Addr) (a2 : Addr) (c0 : Int32) (c1 : Int32) (cs : Int32) (h0 : Heap) (n0 : Nat) (Z0 : n0 ≤ h0.size) (E_a1 : Exa Z h0 a1 "java/lang/String") (F_value : Fld Z h0 a1 "java/lang/String" "value" "[B" .null) (F_coder : Fld Z h0 a1 "java/lang/String" "coder" "B" (.int (0 : Int32))) (g_a1 : n0 ≤ a1) (S_cs : Sta Z h0 "java/lang/String" "COMPACT_STRINGS" "Z" (.int cs)) (hcs : ¬ cs = 0) (S_ad : Sta Z h0 "java/lang/StringUTF16" "$assertionsDisabled" "Z" (.int (1 : Int32))) (S_hb : Sta Z h0 "java/lang/StringUTF16" "HI_BYTE_SHIFT" "I" (.int (0 : Int32))) (S_lb : Sta Z h0 "java/lang/StringUTF16" "LO_BYTE_SHIFT" "I" (.int (8 : Int32))) (V_a2 : own_Arr Z h0 a2 .char [(.int c0), (.int c1)]) (ok0 : own_Ok c0) (ok1 : own_Ok c1) :
    MetFree l (⟨"java/lang/String", "<init>", "([CIILjava/lang/Void;)V"⟩ : MethodName) (head1 (Jvm.Cond.code (⟨"java/lang/String", "<init>", "([CIILjava/lang/Void;)V"⟩ : MethodName) jdk_42_method_149_code 6 none :: ws) ({ frames := 4, cells := 2, slots := 6, locals := 80 } : Room)) (fun a U => a = #[(.ref a1), (.ref a2), (.int (0 : Int32)), (.int (2 : Int32)), .null] ∧ Z.Warmed39 U.vm ∧ U.heap = h0) (fun _ _ _ _ _ => True) (fun _ U o U' => ∃ v L, o = .returned v ∧ QS Z a1 2 h0 n0 v U'.heap L ∧ FrameEnd U o U' L ({ frames := 4, cells := 2, slots := 6, locals := 80 } : Room).cells ({ frames := 4, cells := 2, slots := 6, locals := 80 } : Room).slots) := by
  refine MetFree.of_bodySF (plainFor_of_name pn_1) hisR ?_
  intro p e s m args below meth c s₁ Bd hml0 hP hK
  obtain ⟨rfl, hZ, hh⟩ := hP
  have hx := Bd.exec
  have hby := Bd.bytes
  have hml : c.maxLocals = 6 := hml0
  have hown : s.vm.findClass "java/lang/String" = some m.cls := findClass_of_methodNamed Bd.named
  have hnm := (name_of_methodNamed Bd.named Bd.method).1
  have hlk : meth.locks = false := BodyLoose.notSynchronized Bd
  have X0 : Stand p l e ({ frames := 4, cells := 2, slots := 6, locals := 80 } : Room) s m #[(.ref a1), (.ref a2), (.int (0 : Int32)), (.int (2 : Int32)), .null] below meth c s₁ [] 0 0 := Stand.of_body Bd
  have e0 : s₁.heap = h0 := by rw [← hh, Bd.state]; rfl
  have N0 := Fr.nil n0
  refine own_start (Q := QS Z a1 2 h0 n0) (ef_2_2 m a1 a2) ?_
  have K0 := Keep.refl h0 [a1]
  show own_Go p e below _ s₁ (mkF m 0 #[.val (.ref a1), .val (.ref a2), .val (.int (0 : Int32)), .val (.int (2 : Int32)), .val .null, .unset] [])
  refine own_by (fun t_ k_ => XS.aloadN X0.here hx rfl (hb hby d2_0) rfl rfl k_) ?_
  show own_Go p e below _ s₁ (mkF m 1 #[.val (.ref a1), .val (.ref a2), .val (.int (0 : Int32)), .val (.int (2 : Int32)), .val .null, .unset] [(.ref a1)])
  refine own_initO X0 hx hZ hown (own_w hw 13 rfl) (own_w hw 14 rfl) (own_w hw 15 rfl) e0 (by rw [hml]; rfl) (hb hby d2_1) (by decide) (W := 0) (Nat.le_of_eq rfl) (by decide) ?_
  intro T1 X1 e1
  show own_Go p e below _ T1 (mkF m 4 #[.val (.ref a1), .val (.ref a2), .val (.int (0 : Int32)), .val (.int (2 : Int32)), .val .null, .unset] [])
  refine own_by (fun t_ k_ => XS.iloadN X1.here hx rfl (hb hby d2_4) rfl k_) ?_
  show own_Go p e below _ T1 (mkF m 5 #[.val (.ref a1), .val (.ref a2), .val (.int (0 : Int32)), .val (.int (2 : Int32)), .val .null, .unset] [(.int (2 : Int32))])
  refine own_if X1 hx 27 (hb hby d2_5) (by decide) (by decide) (fun _ => ?_) (fun hc => absurd (show ¬ (2 : Int32) = (0 : Int32) from by decide) (by first | exact hc | exact not_not_intro hc))
  show own_Go p e below _ T1 (mkF m 27 #[.val (.ref a1), .val (.ref a2), .val (.int (0 : Int32)), .val (.int (2 : Int32)), .val .null, .unset] [])
  refine own_getS X1 hx hZ hown (own_w hw 16 rfl) Via.refl e1 S_cs (hb hby d2_27) ?_
  intro T2 X2 e2
  show own_Go p e below _ T2 (mkF m 30 #[.val (.ref a1), .val (.ref a2), .val (.int (0 : Int32)), .val (.int (2 : Int32)), .val .null, .unset] [(.int cs)])
  refine own_if X2 hx 58 (hb hby d2_30) (by decide) (by decide) (fun hc => absurd (show ¬ cs = (0 : Int32) from hcs) (by first | exact hc | exact not_not_intro hc)) (fun _ => ?_)
  show own_Go p e below _ T2 (mkF m 33 #[.val (.ref a1), .val (.ref a2), .val (.int (0 : Int32)), .val (.int (2 : Int32)), .val .null, .unset] [])
  refine own_by (fun t_ k_ => XS.aloadN X2.here hx rfl (hb hby d2_33) rfl rfl k_) ?_
  show own_Go p e below _ T2 (mkF m 34 #[.val (.ref a1), .val (.ref a2), .val (.int (0 : Int32)), .val (.int (2 : Int32)), .val .null, .unset] [(.ref a2)])
  refine own_by (fun t_ k_ => XS.iloadN X2.here hx rfl (hb hby d2_34) rfl k_) ?_
  show own_Go p e below _ T2 (mkF m 35 #[.val (.ref a1), .val (.ref a2), .val (.int (0 : Int32)), .val (.int (2 : Int32)), .val .null, .unset] [(.int (0 : Int32)), (.ref a2)])
  refine own_by (fun t_ k_ => XS.iloadN X2.here hx rfl (hb hby d2_35) rfl k_) ?_
  show own_Go p e below _ T2 (mkF m 36 #[.val (.ref a1), .val (.ref a2), .val (.int (0 : Int32)), .val (.int (2 : Int32)), .val .null, .unset] [(.int (2 : Int32)), (.int (0 : Int32)), (.ref a2)])
  refine own_callS (W := 0) X2 hx hZ (y := (⟨"java/lang/StringUTF16", "compress", "([CII)[B"⟩ : MethodName)) hown (own_w hw 17 rfl) (own_w hw 18 rfl) (own_w hw 19 rfl) (own_w hw 20 rfl) (by decide) (by rw [hml]; rfl) (argsL := [(.ref a2), (.int (0 : Int32)), (.int (2 : Int32))]) pd_3 rfl (rm4_2 l Z a0 hw [] a2 c0 c1 h0 n0 Z0 S_ad S_hb S_lb V_a2 ok0 ok1) (by decide) (by decide) (Nat.le_of_eq rfl) (by decide) (by decide) (rest := []) e2 rfl (hb hby d2_36) ?_
  intro v3 T3 L3 X3 hQ3
  obtain ⟨r3, vs3, n3, rfl, N3q, K3q, A3, hl3, hn3⟩ := hQ3
  have N3 := Fr.app N0 N3q
  have sz3 : n0 ≤ T3.heap.size := Nat.le_trans Z0 K3q.1
  have K3 : Keep h0 T3.heap [a1] := K0.trans K3q (all0)
  rcases hn3 with rfl | rfl
  · have hll : vs3.length = 2 := hl3
    have E_a1_4 : Exa Z T3.heap a1 "java/lang/String" := (Exa.keep E_a1 K3q)
    have nea : a1 ≠ r3 := own_exa_arr E_a1_4 (own_w hw 3 rfl) A3
    show own_Go p e below _ T3 (mkF m 39 #[.val (.ref a1), .val (.ref a2), .val (.int (0 : Int32)), .val (.int (2 : Int32)), .val .null, .unset] [(.ref r3)])
    refine own_by (fun t_ k_ => XS.astore X3.here hx rfl (hb hby d2_39) rfl rfl (l' := #[.val (.ref a1), .val (.ref a2), .val (.int (0 : Int32)), .val (.int (2 : Int32)), .val .null, .val (.ref r3)]) rfl k_) ?_
    show own_Go p e below _ T3 (mkF m 41 #[.val (.ref a1), .val (.ref a2), .val (.int (0 : Int32)), .val (.int (2 : Int32)), .val .null, .val (.ref r3)] [])
    refine own_by (fun t_ k_ => XS.aloadN X3.here hx rfl (hb hby d2_41) rfl rfl k_) ?_
    show own_Go p e below _ T3 (mkF m 42 #[.val (.ref a1), .val (.ref a2), .val (.int (0 : Int32)), .val (.int (2 : Int32)), .val .null, .val (.ref r3)] [(.ref a1)])
    refine own_by (fun t_ k_ => XS.aload X3.here hx rfl (hb hby d2_42) rfl rfl k_) ?_
    show own_Go p e below _ T3 (mkF m 44 #[.val (.ref a1), .val (.ref a2), .val (.int (0 : Int32)), .val (.int (2 : Int32)), .val .null, .val (.ref r3)] [(.ref r3), (.ref a1)])
    refine own_by (fun t_ k_ => XS.iloadN X3.here hx rfl (hb hby d2_44) rfl k_) ?_
    show own_Go p e below _ T3 (mkF m 45 #[.val (.ref a1), .val (.ref a2), .val (.int (0 : Int32)), .val (.int (2 : Int32)), .val .null, .val (.ref r3)] [(.int (2 : Int32)), (.ref r3), (.ref a1)])
    refine own_callS (W := 1) X3 hx hZ (y := (⟨"java/lang/StringUTF16", "coderFromArrayLen", "([BI)B"⟩ : MethodName)) hown (own_w hw 25 rfl) (own_w hw 26 rfl) (own_w hw 19 rfl) (own_w hw 27 rfl) (by decide) (by rw [hml]; rfl) (argsL := [(.ref r3), (.int (2 : Int32))]) pd_5 rfl (rm6_2_2 l Z a0 hw [] r3 vs3 T3.heap n0 sz3 A3 hll) (by decide) (by decide) (Nat.le_of_eq rfl) (by decide) (by decide) (rest := [(.ref a1)]) rfl rfl (hb hby d2_45) ?_
    intro v5 T5 L5 X5 hQ5
    obtain ⟨rfl, N5q, e5⟩ := hQ5
    have N5 := Fr.app N3 N5q
    show own_Go p e below _ T5 (mkF m 48 #[.val (.ref a1), .val (.ref a2), .val (.int (0 : Int32)), .val (.int (2 : Int32)), .val .null, .val (.ref r3)] [(.int (0 : Int32)), (.ref a1)])
    have F_coder_7 : Fld Z T3.heap a1 "java/lang/String" "coder" "B" (.int (0 : Int32)) := (Fld.keep F_coder K3q nin0)
    refine own_putF X5 hx hZ hown (own_w hw 28 rfl) Via.refl e5 F_coder_7 E_a1_4 (Or.inr ⟨(own_w hw 29 rfl), rfl, hnm⟩) (own_w hw 3 rfl) (ty := .byte) (by decide) rfl rfl (hb hby d2_48) ?_
    intro T6 h6 X6 e6 W6
    have F6 := Fld.same W6 F_coder_7
    have N6 := Fr.snoc X6 N5 g_a1
    have sz6 : n0 ≤ h6.size := Nat.le_trans sz3 (Keep.of_wr W6).1
    have K6 : Keep h0 h6 [a1] := K3.wr W6 (Or.inl (List.mem_cons_self ..))
    show own_Go p e below _ T6 (mkF m 51 #[.val (.ref a1), .val (.ref a2), .val (.int (0 : Int32)), .val (.int (2 : Int32)), .val .null, .val (.ref r3)] [])
    refine own_by (fun t_ k_ => XS.aloadN X6.here hx rfl (hb hby d2_51) rfl rfl k_) ?_
    show own_Go p e below _ T6 (mkF m 52 #[.val (.ref a1), .val (.ref a2), .val (.int (0 : Int32)), .val (.int (2 : Int32)), .val .null, .val (.ref r3)] [(.ref a1)])
    refine own_by (fun t_ k_ => XS.aload X6.here hx rfl (hb hby d2_52) rfl rfl k_) ?_
    show own_Go p e below _ T6 (mkF m 54 #[.val (.ref a1), .val (.ref a2), .val (.int (0 : Int32)), .val (.int (2 : Int32)), .val .null, .val (.ref r3)] [(.ref r3), (.ref a1)])
    have F_value_9 : Fld Z h6 a1 "java/lang/String" "value" "[B" .null := (Fld.other W6 (Fld.keep F_value K3q nin0) (Or.inr (slot_ne (Or.inr (own_w hw 31 rfl)) (Or.inr (own_w hw 29 rfl)) (by decide) (t := (.array .byte)) (t' := .byte) (by decide) (by decide))))
    have E_a1_10 : Exa Z h6 a1 "java/lang/String" := (Exa.wr W6 E_a1_4)
    refine own_putF X6 hx hZ hown (own_w hw 30 rfl) Via.refl e6 F_value_9 E_a1_10 (Or.inr ⟨(own_w hw 31 rfl), rfl, hnm⟩) (own_w hw 3 rfl) (ty := (.array .byte)) (by decide) rfl rfl (hb hby d2_54) ?_
    intro T8 h8 X8 e8 W8
    have F8 := Fld.same W8 F_value_9
    have N8 := Fr.snoc X8 N6 g_a1
    have sz8 : n0 ≤ h8.size := Nat.le_trans sz6 (Keep.of_wr W8).1
    have K8 : Keep h0 h8 [a1] := K6.wr W8 (Or.inl (List.mem_cons_self ..))
    show own_Go p e below _ T8 (mkF m 57 #[.val (.ref a1), .val (.ref a2), .val (.int (0 : Int32)), .val (.int (2 : Int32)), .val .null, .val (.ref r3)] [])
    refine own_retV X8 hx hlk Bd.returns (hb hby d2_57) e8 (by decide) (by decide) ?_
    have E_a1_11 : Exa Z h8 a1 "java/lang/String" := (Exa.wr W8 E_a1_10)
    have F6_12 : Fld Z h8 a1 "java/lang/String" "coder" "B" (.int (0 : Int32)) := (Fld.other W8 F6 (Or.inr (slot_ne (Or.inr (own_w hw 29 rfl)) (Or.inr (own_w hw 31 rfl)) (by decide) (t := .byte) (t' := (.array .byte)) (by decide) (by decide))))
    have A3_13 : own_Arr Z h8 r3 .byte vs3 := (own_Arr.other (own_Arr.other A3 W6 (Ne.symm nea)) W8 (Ne.symm nea))
    exact ⟨rfl, N8, K8, _, _, _, 2, E_a1_11, F6_12, F8, A3_13, hll, Or.inl rfl, by decide⟩
  · have hll : vs3.length = 4 := hl3
    have E_a1_14 : Exa Z T3.heap a1 "java/lang/String" := (Exa.keep E_a1 K3q)
    have nea : a1 ≠ r3 := own_exa_arr E_a1_14 (own_w hw 3 rfl) A3
    show own_Go p e below _ T3 (mkF m 39 #[.val (.ref a1), .val (.ref a2), .val (.int (0 : Int32)), .val (.int (2 : Int32)), .val .null, .unset] [(.ref r3)])
    refine own_by (fun t_ k_ => XS.astore X3.here hx rfl (hb hby d2_39) rfl rfl (l' := #[.val (.ref a1), .val (.ref a2), .val (.int (0 : Int32)), .val (.int (2 : Int32)), .val .null, .val (.ref r3)]) rfl k_) ?_
    show own_Go p e below _ T3 (mkF m 41 #[.val (.ref a1), .val (.ref a2), .val (.int (0 : Int32)), .val (.int (2 : Int32)), .val .null, .val (.ref r3)] [])
    refine own_by (fun t_ k_ => XS.aloadN X3.here hx rfl (hb hby d2_41) rfl rfl k_) ?_
    show own_Go p e below _ T3 (mkF m 42 #[.val (.ref a1), .val (.ref a2), .val (.int (0 : Int32)), .val (.int (2 : Int32)), .val .null, .val (.ref r3)] [(.ref a1)])
    refine own_by (fun t_ k_ => XS.aload X3.here hx rfl (hb hby d2_42) rfl rfl k_) ?_
    show own_Go p e below _ T3 (mkF m 44 #[.val (.ref a1), .val (.ref a2), .val (.int (0 : Int32)), .val (.int (2 : Int32)), .val .null, .val (.ref r3)] [(.ref r3), (.ref a1)])
    refine own_by (fun t_ k_ => XS.iloadN X3.here hx rfl (hb hby d2_44) rfl k_) ?_
    show own_Go p e below _ T3 (mkF m 45 #[.val (.ref a1), .val (.ref a2), .val (.int (0 : Int32)), .val (.int (2 : Int32)), .val .null, .val (.ref r3)] [(.int (2 : Int32)), (.ref r3), (.ref a1)])
    refine own_callS (W := 1) X3 hx hZ (y := (⟨"java/lang/StringUTF16", "coderFromArrayLen", "([BI)B"⟩ : MethodName)) hown (own_w hw 25 rfl) (own_w hw 26 rfl) (own_w hw 19 rfl) (own_w hw 27 rfl) (by decide) (by rw [hml]; rfl) (argsL := [(.ref r3), (.int (2 : Int32))]) pd_5 rfl (rm6_2_4 l Z a0 hw [] r3 vs3 T3.heap n0 sz3 A3 hll) (by decide) (by decide) (Nat.le_of_eq rfl) (by decide) (by decide) (rest := [(.ref a1)]) rfl rfl (hb hby d2_45) ?_
    intro v15 T15 L15 X15 hQ15
    obtain ⟨rfl, N15q, e15⟩ := hQ15
    have N15 := Fr.app N3 N15q
    show own_Go p e below _ T15 (mkF m 48 #[.val (.ref a1), .val (.ref a2), .val (.int (0 : Int32)), .val (.int (2 : Int32)), .val .null, .val (.ref r3)] [(.int (1 : Int32)), (.ref a1)])
    have F_coder_17 : Fld Z T3.heap a1 "java/lang/String" "coder" "B" (.int (0 : Int32)) := (Fld.keep F_coder K3q nin0)
    refine own_putF X15 hx hZ hown (own_w hw 28 rfl) Via.refl e15 F_coder_17 E_a1_14 (Or.inr ⟨(own_w hw 29 rfl), rfl, hnm⟩) (own_w hw 3 rfl) (ty := .byte) (by decide) rfl rfl (hb hby d2_48) ?_
    intro T16 h16 X16 e16 W16
    have F16 := Fld.same W16 F_coder_17
    have N16 := Fr.snoc X16 N15 g_a1
    have sz16 : n0 ≤ h16.size := Nat.le_trans sz3 (Keep.of_wr W16).1
    have K16 : Keep h0 h16 [a1] := K3.wr W16 (Or.inl (List.mem_cons_self ..))
    show own_Go p e below _ T16 (mkF m 51 #[.val (.ref a1), .val (.ref a2), .val (.int (0 : Int32)), .val (.int (2 : Int32)), .val .null, .val (.ref r3)] [])
    refine own_by (fun t_ k_ => XS.aloadN X16.here hx rfl (hb hby d2_51) rfl rfl k_) ?_
    show own_Go p e below _ T16 (mkF m 52 #[.val (.ref a1), .val (.ref a2), .val (.int (0 : Int32)), .val (.int (2 : Int32)), .val .null, .val (.ref r3)] [(.ref a1)])
    refine own_by (fun t_ k_ => XS.aload X16.here hx rfl (hb hby d2_52) rfl rfl k_) ?_
    show own_Go p e below _ T16 (mkF m 54 #[.val (.ref a1), .val (.ref a2), .val (.int (0 : Int32)), .val (.int (2 : Int32)), .val .null, .val (.ref r3)] [(.ref r3), (.ref a1)])
    have F_value_19 : Fld Z h16 a1 "java/lang/String" "value" "[B" .null := (Fld.other W16 (Fld.keep F_value K3q nin0) (Or.inr (slot_ne (Or.inr (own_w hw 31 rfl)) (Or.inr (own_w hw 29 rfl)) (by decide) (t := (.array .byte)) (t' := .byte) (by decide) (by decide))))
    have E_a1_20 : Exa Z h16 a1 "java/lang/String" := (Exa.wr W16 E_a1_14)
    refine own_putF X16 hx hZ hown (own_w hw 30 rfl) Via.refl e16 F_value_19 E_a1_20 (Or.inr ⟨(own_w hw 31 rfl), rfl, hnm⟩) (own_w hw 3 rfl) (ty := (.array .byte)) (by decide) rfl rfl (hb hby d2_54) ?_
    intro T18 h18 X18 e18 W18
    have F18 := Fld.same W18 F_value_19
    have N18 := Fr.snoc X18 N16 g_a1
    have sz18 : n0 ≤ h18.size := Nat.le_trans sz16 (Keep.of_wr W18).1
    have K18 : Keep h0 h18 [a1] := K16.wr W18 (Or.inl (List.mem_cons_self ..))
    show own_Go p e below _ T18 (mkF m 57 #[.val (.ref a1), .val (.ref a2), .val (.int (0 : Int32)), .val (.int (2 : Int32)), .val .null, .val (.ref r3)] [])
    refine own_retV X18 hx hlk Bd.returns (hb hby d2_57) e18 (by decide) (by decide) ?_
    have E_a1_21 : Exa Z h18 a1 "java/lang/String" := (Exa.wr W18 E_a1_20)
    have F16_22 : Fld Z h18 a1 "java/lang/String" "coder" "B" (.int (1 : Int32)) := (Fld.other W18 F16 (Or.inr (slot_ne (Or.inr (own_w hw 29 rfl)) (Or.inr (own_w hw 31 rfl)) (by decide) (t := .byte) (t' := (.array .byte)) (by decide) (by decide))))
    have A3_23 : own_Arr Z h18 r3 .byte vs3 := (own_Arr.other (own_Arr.other A3 W16 (Ne.symm nea)) W18 (Ne.symm nea))
    exact ⟨rfl, N18, K18, _, _, _, 4, E_a1_21, F16_22, F18, A3_23, hll, Or.inr rfl, by decide⟩
theorem ef_1_2 (m : MethodId) (a1 : Addr) (a2 : Addr) : entryFrame m #[(.ref a1), (.ref a2)] 2 = mkF m 0 #[.val (.ref a1), .val (.ref a2)] [] := by first | (simp [entryFrame, mkF, argsToLocals, Value.category]; done) | rfl
set_option maxRecDepth 65536 in
set_option maxHeartbeats 40000000 in
theorem rm1_2 (l : Launch) (Z : State) (a0 : Array Value) (hw : ∀ d ∈ tables_1, d.before a0 Z = true) (ws : List Jvm.Cond) (a1 : Addr) (a2 : Addr) (c0 : Int32) (c1 : Int32) (cs : Int32) (h0 : Heap) (n0 : Nat) (Z0 : n0 ≤ h0.size) (E_a1 : Exa Z h0 a1 "java/lang/String") (F_value : Fld Z h0 a1 "java/lang/String" "value" "[B" .null) (F_coder : Fld Z h0 a1 "java/lang/String" "coder" "B" (.int (0 : Int32))) (g_a1 : n0 ≤ a1) (S_cs : Sta Z h0 "java/lang/String" "COMPACT_STRINGS" "Z" (.int cs)) (hcs : ¬ cs = 0) (S_ad : Sta Z h0 "java/lang/StringUTF16" "$assertionsDisabled" "Z" (.int (1 : Int32))) (S_hb : Sta Z h0 "java/lang/StringUTF16" "HI_BYTE_SHIFT" "I" (.int (0 : Int32))) (S_lb : Sta Z h0 "java/lang/StringUTF16" "LO_BYTE_SHIFT" "I" (.int (8 : Int32))) (V_a2 : own_Arr Z h0 a2 .char [(.int c0), (.int c1)]) (ok0 : own_Ok c0) (ok1 : own_Ok c1) :
    MetFree l (⟨"java/lang/String", "<init>", "([C)V"⟩ : MethodName) (head1 (Jvm.Cond.code (⟨"java/lang/String", "<init>", "([C)V"⟩ : MethodName) jdk_42_method_3_code 2 none :: ws) ({ frames := 5, cells := 2, slots := 6, locals := 110 } : Room)) (fun a U => a = #[(.ref a1), (.ref a2)] ∧ Z.Warmed39 U.vm ∧ U.heap = h0) (fun _ _ _ _ _ => True) (fun _ U o U' => ∃ v L, o = .returned v ∧ QS Z a1 2 h0 n0 v U'.heap L ∧ FrameEnd U o U' L ({ frames := 5, cells := 2, slots := 6, locals := 110 } : Room).cells ({ frames := 5, cells := 2, slots := 6, locals := 110 } : Room).slots) := by
  refine MetFree.of_bodySF (plainFor_of_name pn_1) hisR ?_
  intro p e s m args below meth c s₁ Bd hml0 hP hK
  obtain ⟨rfl, hZ, hh⟩ := hP
  have hx := Bd.exec
  have hby := Bd.bytes
  have hml : c.maxLocals = 2 := hml0
  have hown : s.vm.findClass "java/lang/String" = some m.cls := findClass_of_methodNamed Bd.named
  have hnm := (name_of_methodNamed Bd.named Bd.method).1
  have hlk : meth.locks = false := BodyLoose.notSynchronized Bd
  have X0 : Stand p l e ({ frames := 5, cells := 2, slots := 6, locals := 110 } : Room) s m #[(.ref a1), (.ref a2)] below meth c s₁ [] 0 0 := Stand.of_body Bd
  have e0 : s₁.heap = h0 := by rw [← hh, Bd.state]; rfl
  have N0 := Fr.nil n0
  refine own_start (Q := QS Z a1 2 h0 n0) (ef_1_2 m a1 a2) ?_
  have K0 := Keep.refl h0 [a1]
  show own_Go p e below _ s₁ (mkF m 0 #[.val (.ref a1), .val (.ref a2)] [])
  refine own_by (fun t_ k_ => XS.aloadN X0.here hx rfl (hb hby d1_0) rfl rfl k_) ?_
  show own_Go p e below _ s₁ (mkF m 1 #[.val (.ref a1), .val (.ref a2)] [(.ref a1)])
  refine own_by (fun t_ k_ => XS.aloadN X0.here hx rfl (hb hby d1_1) rfl rfl k_) ?_
  show own_Go p e below _ s₁ (mkF m 2 #[.val (.ref a1), .val (.ref a2)] [(.ref a2), (.ref a1)])
  refine own_by (fun t_ k_ => XS.iconst X0.here hx rfl (hb hby d1_2) k_) ?_
  show own_Go p e below _ s₁ (mkF m 3 #[.val (.ref a1), .val (.ref a2)] [(.int (0 : Int32)), (.ref a2), (.ref a1)])
  refine own_by (fun t_ k_ => XS.aloadN X0.here hx rfl (hb hby d1_3) rfl rfl k_) ?_
  show own_Go p e below _ s₁ (mkF m 4 #[.val (.ref a1), .val (.ref a2)] [(.ref a2), (.int (0 : Int32)), (.ref a2), (.ref a1)])
  refine own_alen X0 hx hZ e0 V_a2 (hb hby d1_4) ?_
  show own_Go p e below _ s₁ (mkF m 5 #[.val (.ref a1), .val (.ref a2)] [(.int (2 : Int32)), (.int (0 : Int32)), (.ref a2), (.ref a1)])
  refine own_by (fun t_ k_ => XS.aconstNull X0.here hx rfl (hb hby d1_5) k_) ?_
  show own_Go p e below _ s₁ (mkF m 6 #[.val (.ref a1), .val (.ref a2)] [.null, (.int (2 : Int32)), (.int (0 : Int32)), (.ref a2), (.ref a1)])
  refine own_callC (W := 0) X0 hx hZ (y := (⟨"java/lang/String", "<init>", "([CIILjava/lang/Void;)V"⟩ : MethodName)) rfl hown (own_w hw 9 rfl) (own_w hw 10 rfl) (own_w hw 4 rfl) (own_w hw 12 rfl) (by decide) (by rw [hml]; rfl) (argsL := [(.ref a2), (.int (0 : Int32)), (.int (2 : Int32)), .null]) pd_1 rfl (a := a1) (rm2_2 l Z a0 hw [] a1 a2 c0 c1 cs h0 n0 Z0 E_a1 F_value F_coder g_a1 S_cs hcs S_ad S_hb S_lb V_a2 ok0 ok1) (by decide) (by decide) (Nat.le_of_eq rfl) (by decide) (by decide) (rest := []) e0 rfl (hb hby d1_6) ?_
  intro v1 T1 L1 X1 hQ1
  obtain ⟨rfl, N1q, K1q, S1⟩ := hQ1
  have N1 := Fr.app N0 N1q
  have sz1 : n0 ≤ T1.heap.size := Nat.le_trans Z0 K1q.1
  have K1 : Keep h0 T1.heap [a1] := K0.trans K1q (allS (Or.inl (List.mem_cons_self ..)) all0)
  show own_Go p e below _ T1 (mkF m 9 #[.val (.ref a1), .val (.ref a2)] [])
  refine own_retV X1 hx hlk Bd.returns (hb hby d1_9) rfl (by decide) (by decide) ?_
  exact ⟨rfl, N1, K1, S1⟩
theorem ef_18_3 (m : MethodId)  : entryFrame m #[(.int (3 : Int32))] 1 = mkF m 0 #[.val (.int (3 : Int32))] [] := by first | (simp [entryFrame, mkF, argsToLocals, Value.category]; done) | rfl
set_option maxRecDepth 65536 in
set_option maxHeartbeats 40000000 in
theorem rm18_3 (l : Launch) (Z : State) (a0 : Array Value) (hw : ∀ d ∈ tables_1, d.before a0 Z = true) (ws : List Jvm.Cond)  (h0 : Heap) (n0 : Nat) (Z0 : n0 ≤ h0.size) :
    MetFree l (⟨"java/lang/StringUTF16", "newBytesLength", "(I)I"⟩ : MethodName) (head1 (Jvm.Cond.code (⟨"java/lang/StringUTF16", "newBytesLength", "(I)I"⟩ : MethodName) jdk_52_method_3_code 1 (some .int) :: ws) ({ frames := 0, cells := 0, slots := 0, locals := 0 } : Room)) (fun a U => a = #[(.int (3 : Int32))] ∧ Z.Warmed39 U.vm ∧ U.heap = h0) (fun _ _ _ _ _ => True) (fun _ U o U' => ∃ v L, o = .returned v ∧ QI 6 h0 n0 v U'.heap L ∧ FrameEnd U o U' L ({ frames := 0, cells := 0, slots := 0, locals := 0 } : Room).cells ({ frames := 0, cells := 0, slots := 0, locals := 0 } : Room).slots) := by
  refine MetFree.of_bodySF (plainFor_of_name pn_4) hisR ?_
  intro p e s m args below meth c s₁ Bd hml0 hP hK
  obtain ⟨rfl, hZ, hh⟩ := hP
  have hx := Bd.exec
  have hby := Bd.bytes
  have hml : c.maxLocals = 1 := hml0
  have hown : s.vm.findClass "java/lang/StringUTF16" = some m.cls := findClass_of_methodNamed Bd.named
  have hnm := (name_of_methodNamed Bd.named Bd.method).1
  have hlk : meth.locks = false := BodyLoose.notSynchronized Bd
  have X0 : Stand p l e ({ frames := 0, cells := 0, slots := 0, locals := 0 } : Room) s m #[(.int (3 : Int32))] below meth c s₁ [] 0 0 := Stand.of_body Bd
  have e0 : s₁.heap = h0 := by rw [← hh, Bd.state]; rfl
  have N0 := Fr.nil n0
  refine own_start (Q := QI 6 h0 n0) (ef_18_3 m ) ?_
  show own_Go p e below _ s₁ (mkF m 0 #[.val (.int (3 : Int32))] [])
  refine own_by (fun t_ k_ => XS.iloadN X0.here hx rfl (hb hby d18_0) rfl k_) ?_
  show own_Go p e below _ s₁ (mkF m 1 #[.val (.int (3 : Int32))] [(.int (3 : Int32))])
  refine own_if X0 hx 12 (hb hby d18_1) (by decide) (by decide) (fun _ => ?_) (fun hc => absurd (show ¬ (3 : Int32) < (0 : Int32) from by decide) (by first | exact hc | exact not_not_intro hc))
  show own_Go p e below _ s₁ (mkF m 12 #[.val (.int (3 : Int32))] [])
  refine own_by (fun t_ k_ => XS.iloadN X0.here hx rfl (hb hby d18_12) rfl k_) ?_
  show own_Go p e below _ s₁ (mkF m 13 #[.val (.int (3 : Int32))] [(.int (3 : Int32))])
  refine own_by (fun t_ k_ => X0.ldcInt hx hown (mvT hZ (own_w hw 95 rfl)) (g := (mkF m 13 #[.val (.int (3 : Int32))] [(.int (3 : Int32))])) rfl (hb hby d18_13) _ k_) ?_
  show own_Go p e below _ s₁ (mkF m 15 #[.val (.int (3 : Int32))] [(.int (1073741823 : Int32)), (.int (3 : Int32))])
  refine own_icmp X0 hx 55 (hb hby d18_15) (by decide) (by decide) (fun _ => ?_) (fun hc => absurd (show (3 : Int32) < (1073741823 : Int32) from by decide) (by first | exact hc | exact not_not_intro hc))
  show own_Go p e below _ s₁ (mkF m 55 #[.val (.int (3 : Int32))] [])
  refine own_by (fun t_ k_ => XS.iloadN X0.here hx rfl (hb hby d18_55) rfl k_) ?_
  show own_Go p e below _ s₁ (mkF m 56 #[.val (.int (3 : Int32))] [(.int (3 : Int32))])
  refine own_by (fun t_ k_ => XS.iconst X0.here hx rfl (hb hby d18_56) k_) ?_
  show own_Go p e below _ s₁ (mkF m 57 #[.val (.int (3 : Int32))] [(.int (1 : Int32)), (.int (3 : Int32))])
  refine own_by (fun t_ k_ => XT.ishl X0.here hx rfl (hb hby d18_57) rfl k_) ?_
  show own_Go p e below _ s₁ (mkF m 58 #[.val (.int (3 : Int32))] [(.int ((3 : Int32) <<< ((1 : Int32) &&& 31)))])
  refine own_retI X0 hx hlk Bd.returns (hb hby d18_58) e0 (by decide) (by decide) ?_
  exact ⟨congrArg some (congrArg Value.int (by decide)), N0, rfl⟩
theorem ef_17_3 (m : MethodId)  : entryFrame m #[(.int (3 : Int32))] 1 = mkF m 0 #[.val (.int (3 : Int32))] [] := by first | (simp [entryFrame, mkF, argsToLocals, Value.category]; done) | rfl
set_option maxRecDepth 65536 in
set_option maxHeartbeats 40000000 in
theorem rm17_3 (l : Launch) (Z : State) (a0 : Array Value) (hw : ∀ d ∈ tables_1, d.before a0 Z = true) (ws : List Jvm.Cond)  (h0 : Heap) (n0 : Nat) (Z0 : n0 ≤ h0.size) :
    MetFree l (⟨"java/lang/StringUTF16", "newBytesFor", "(I)[B"⟩ : MethodName) (head1 (Jvm.Cond.code (⟨"java/lang/StringUTF16", "newBytesFor", "(I)[B"⟩ : MethodName) jdk_52_method_2_code 1 (some (.array .byte)) :: ws) ({ frames := 1, cells := 1, slots := 6, locals := 12 } : Room)) (fun a U => a = #[(.int (3 : Int32))] ∧ Z.Warmed39 U.vm ∧ U.heap = h0) (fun _ _ _ _ _ => True) (fun _ U o U' => ∃ v L, o = .returned v ∧ QA Z [(.int (0 : Int32)), (.int (0 : Int32)), (.int (0 : Int32)), (.int (0 : Int32)), (.int (0 : Int32)), (.int (0 : Int32))] h0 n0 v U'.heap L ∧ FrameEnd U o U' L ({ frames := 1, cells := 1, slots := 6, locals := 12 } : Room).cells ({ frames := 1, cells := 1, slots := 6, locals := 12 } : Room).slots) := by
  refine MetFree.of_bodySF (plainFor_of_name pn_4) hisR ?_
  intro p e s m args below meth c s₁ Bd hml0 hP hK
  obtain ⟨rfl, hZ, hh⟩ := hP
  have hx := Bd.exec
  have hby := Bd.bytes
  have hml : c.maxLocals = 1 := hml0
  have hown : s.vm.findClass "java/lang/StringUTF16" = some m.cls := findClass_of_methodNamed Bd.named
  have hnm := (name_of_methodNamed Bd.named Bd.method).1
  have hlk : meth.locks = false := BodyLoose.notSynchronized Bd
  have X0 : Stand p l e ({ frames := 1, cells := 1, slots := 6, locals := 12 } : Room) s m #[(.int (3 : Int32))] below meth c s₁ [] 0 0 := Stand.of_body Bd
  have e0 : s₁.heap = h0 := by rw [← hh, Bd.state]; rfl
  have N0 := Fr.nil n0
  refine own_start (Q := QA Z [(.int (0 : Int32)), (.int (0 : Int32)), (.int (0 : Int32)), (.int (0 : Int32)), (.int (0 : Int32)), (.int (0 : Int32))] h0 n0) (ef_17_3 m ) ?_
  have K0 := Keep.refl h0 []
  show own_Go p e below _ s₁ (mkF m 0 #[.val (.int (3 : Int32))] [])
  refine own_by (fun t_ k_ => XS.iloadN X0.here hx rfl (hb hby d17_0) rfl k_) ?_
  show own_Go p e below _ s₁ (mkF m 1 #[.val (.int (3 : Int32))] [(.int (3 : Int32))])
  refine own_callS (W := 0) X0 hx hZ (y := (⟨"java/lang/StringUTF16", "newBytesLength", "(I)I"⟩ : MethodName)) hown (own_w hw 92 rfl) (own_w hw 93 rfl) (own_w hw 19 rfl) (own_w hw 94 rfl) (by decide) (by rw [hml]; rfl) (argsL := [(.int (3 : Int32))]) pd_14 rfl (rm18_3 l Z a0 hw [] h0 n0 Z0) (by decide) (by decide) (Nat.le_of_eq rfl) (by decide) (by decide) (rest := []) e0 rfl (hb hby d17_1) ?_
  intro v1 T1 L1 X1 hQ1
  obtain ⟨rfl, N1q, e1⟩ := hQ1
  have N1 := Fr.app N0 N1q
  show own_Go p e below _ T1 (mkF m 4 #[.val (.int (3 : Int32))] [(.int (6 : Int32))])
  refine own_newP X1 hx hZ (own_w hw 21 rfl) e1 (hb hby d17_4) 6 6 (by decide) (by decide) (by decide) (by decide) (by decide) ?_
  intro T2 h2 b2 X2 e2 g2 E2 A2
  have g_b2 : n0 ≤ b2 := Nat.le_trans Z0 (Nat.le_of_eq g2.symm)
  have sz2 : n0 ≤ h2.size := Nat.le_trans Z0 E2.1
  have szk_b2 : h0.size ≤ b2 := Nat.le_trans K0.1 (Nat.le_of_eq g2.symm)
  have K2 : Keep h0 h2 [] := K0.ext E2
  have V2_0 : own_Arr Z h2 b2 .byte [(.int (0 : Int32)), (.int (0 : Int32)), (.int (0 : Int32)), (.int (0 : Int32)), (.int (0 : Int32)), (.int (0 : Int32))] := A2
  show own_Go p e below _ T2 (mkF m 6 #[.val (.int (3 : Int32))] [(.ref b2)])
  refine own_retR X2 hx hlk Bd.returns rfl rfl rfl (hb hby d17_6) e2 (by decide) (by decide) ?_
  exact ⟨b2, rfl, N1, K2, szk_b2, V2_0⟩
theorem ef_16_3 (m : MethodId) (a1 : Addr) : entryFrame m #[(.ref a1), (.int (0 : Int32)), (.int (3 : Int32))] 5 = mkF m 0 #[.val (.ref a1), .val (.int (0 : Int32)), .val (.int (3 : Int32)), .unset, .unset] [] := by first | (simp [entryFrame, mkF, argsToLocals, Value.category]; done) | rfl
set_option maxRecDepth 65536 in
set_option maxHeartbeats 40000000 in
theorem rm16_3 (l : Launch) (Z : State) (a0 : Array Value) (hw : ∀ d ∈ tables_1, d.before a0 Z = true) (ws : List Jvm.Cond) (a1 : Addr) (c0 : Int32) (c1 : Int32) (c2 : Int32) (h0 : Heap) (n0 : Nat) (Z0 : n0 ≤ h0.size) (S_ad : Sta Z h0 "java/lang/StringUTF16" "$assertionsDisabled" "Z" (.int (1 : Int32))) (S_hb : Sta Z h0 "java/lang/StringUTF16" "HI_BYTE_SHIFT" "I" (.int (0 : Int32))) (S_lb : Sta Z h0 "java/lang/StringUTF16" "LO_BYTE_SHIFT" "I" (.int (8 : Int32))) (V_a1 : own_Arr Z h0 a1 .char [(.int c0), (.int c1), (.int c2)]) :
    MetFree l (⟨"java/lang/StringUTF16", "toBytes", "([CII)[B"⟩ : MethodName) (head1 (Jvm.Cond.code (⟨"java/lang/StringUTF16", "toBytes", "([CII)[B"⟩ : MethodName) jdk_52_method_14_code 5 (some (.array .byte)) :: ws) ({ frames := 2, cells := 1, slots := 6, locals := 30 } : Room)) (fun a U => a = #[(.ref a1), (.int (0 : Int32)), (.int (3 : Int32))] ∧ Z.Warmed39 U.vm ∧ U.heap = h0) (fun _ _ _ _ _ => True) (fun _ U o U' => ∃ v L, o = .returned v ∧ QA Z [(.int (own_b0 c0)), (.int (own_b1 c0)), (.int (own_b0 c1)), (.int (own_b1 c1)), (.int (own_b0 c2)), (.int (own_b1 c2))] h0 n0 v U'.heap L ∧ FrameEnd U o U' L ({ frames := 2, cells := 1, slots := 6, locals := 30 } : Room).cells ({ frames := 2, cells := 1, slots := 6, locals := 30 } : Room).slots) := by
  refine MetFree.of_bodySF (plainFor_of_name pn_4) hisR ?_
  intro p e s m args below meth c s₁ Bd hml0 hP hK
  obtain ⟨rfl, hZ, hh⟩ := hP
  have hx := Bd.exec
  have hby := Bd.bytes
  have hml : c.maxLocals = 5 := hml0
  have hown : s.vm.findClass "java/lang/StringUTF16" = some m.cls := findClass_of_methodNamed Bd.named
  have hnm := (name_of_methodNamed Bd.named Bd.method).1
  have hlk : meth.locks = false := BodyLoose.notSynchronized Bd
  have X0 : Stand p l e ({ frames := 2, cells := 1, slots := 6, locals := 30 } : Room) s m #[(.ref a1), (.int (0 : Int32)), (.int (3 : Int32))] below meth c s₁ [] 0 0 := Stand.of_body Bd
  have e0 : s₁.heap = h0 := by rw [← hh, Bd.state]; rfl
  have N0 := Fr.nil n0
  refine own_start (Q := QA Z [(.int (own_b0 c0)), (.int (own_b1 c0)), (.int (own_b0 c1)), (.int (own_b1 c1)), (.int (own_b0 c2)), (.int (own_b1 c2))] h0 n0) (ef_16_3 m a1) ?_
  have K0 := Keep.refl h0 []
  show own_Go p e below _ s₁ (mkF m 0 #[.val (.ref a1), .val (.int (0 : Int32)), .val (.int (3 : Int32)), .unset, .unset] [])
  refine own_by (fun t_ k_ => XS.iloadN X0.here hx rfl (hb hby d16_0) rfl k_) ?_
  show own_Go p e below _ s₁ (mkF m 1 #[.val (.ref a1), .val (.int (0 : Int32)), .val (.int (3 : Int32)), .unset, .unset] [(.int (3 : Int32))])
  refine own_callS (W := 0) X0 hx hZ (y := (⟨"java/lang/StringUTF16", "newBytesFor", "(I)[B"⟩ : MethodName)) hown (own_w hw 89 rfl) (own_w hw 90 rfl) (own_w hw 19 rfl) (own_w hw 91 rfl) (by decide) (by rw [hml]; rfl) (argsL := [(.int (3 : Int32))]) pd_13 rfl (rm17_3 l Z a0 hw [] h0 n0 Z0) (by decide) (by decide) (Nat.le_of_eq rfl) (by decide) (by decide) (rest := []) e0 rfl (hb hby d16_1) ?_
  intro v1 T1 L1 X1 hQ1
  obtain ⟨r1, rfl, N1q, K1q, hb1, A1⟩ := hQ1
  have szk_r1 : h0.size ≤ r1 := Nat.le_trans K0.1 hb1
  have g_r1 : n0 ≤ r1 := Nat.le_trans Z0 hb1
  have lt_a1_r1 : a1 < r1 := Nat.lt_of_lt_of_le V_a1.lt hb1
  have N1 := Fr.app N0 N1q
  have sz1 : n0 ≤ T1.heap.size := Nat.le_trans Z0 K1q.1
  have K1 : Keep h0 T1.heap [] := K0.trans K1q (all0)
  show own_Go p e below _ T1 (mkF m 4 #[.val (.ref a1), .val (.int (0 : Int32)), .val (.int (3 : Int32)), .unset, .unset] [(.ref r1)])
  refine own_by (fun t_ k_ => XS.astoreN X1.here hx rfl (hb hby d16_4) rfl rfl (l' := #[.val (.ref a1), .val (.int (0 : Int32)), .val (.int (3 : Int32)), .val (.ref r1), .unset]) rfl k_) ?_
  show own_Go p e below _ T1 (mkF m 5 #[.val (.ref a1), .val (.int (0 : Int32)), .val (.int (3 : Int32)), .val (.ref r1), .unset] [])
  refine own_by (fun t_ k_ => XS.iconst X1.here hx rfl (hb hby d16_5) k_) ?_
  show own_Go p e below _ T1 (mkF m 6 #[.val (.ref a1), .val (.int (0 : Int32)), .val (.int (3 : Int32)), .val (.ref r1), .unset] [(.int (0 : Int32))])
  refine own_by (fun t_ k_ => XS.istore X1.here hx rfl (hb hby d16_6) rfl (l' := #[.val (.ref a1), .val (.int (0 : Int32)), .val (.int (3 : Int32)), .val (.ref r1), .val (.int (0 : Int32))]) rfl k_) ?_
  show own_Go p e below _ T1 (mkF m 8 #[.val (.ref a1), .val (.int (0 : Int32)), .val (.int (3 : Int32)), .val (.ref r1), .val (.int (0 : Int32))] [])
  refine own_by (fun t_ k_ => XS.iload X1.here hx rfl (hb hby d16_8) rfl k_) ?_
  show own_Go p e below _ T1 (mkF m 10 #[.val (.ref a1), .val (.int (0 : Int32)), .val (.int (3 : Int32)), .val (.ref r1), .val (.int (0 : Int32))] [(.int (0 : Int32))])
  refine own_by (fun t_ k_ => XS.iloadN X1.here hx rfl (hb hby d16_10) rfl k_) ?_
  show own_Go p e below _ T1 (mkF m 11 #[.val (.ref a1), .val (.int (0 : Int32)), .val (.int (3 : Int32)), .val (.ref r1), .val (.int (0 : Int32))] [(.int (3 : Int32)), (.int (0 : Int32))])
  refine own_icmp X1 hx 32 (hb hby d16_11) (by decide) (by decide) (fun hc => absurd (show (0 : Int32) < (3 : Int32) from by decide) (by first | exact hc | exact not_not_intro hc)) (fun _ => ?_)
  show own_Go p e below _ T1 (mkF m 14 #[.val (.ref a1), .val (.int (0 : Int32)), .val (.int (3 : Int32)), .val (.ref r1), .val (.int (0 : Int32))] [])
  refine own_by (fun t_ k_ => XS.aloadN X1.here hx rfl (hb hby d16_14) rfl rfl k_) ?_
  show own_Go p e below _ T1 (mkF m 15 #[.val (.ref a1), .val (.int (0 : Int32)), .val (.int (3 : Int32)), .val (.ref r1), .val (.int (0 : Int32))] [(.ref r1)])
  refine own_by (fun t_ k_ => XS.iload X1.here hx rfl (hb hby d16_15) rfl k_) ?_
  show own_Go p e below _ T1 (mkF m 17 #[.val (.ref a1), .val (.int (0 : Int32)), .val (.int (3 : Int32)), .val (.ref r1), .val (.int (0 : Int32))] [(.int (0 : Int32)), (.ref r1)])
  refine own_by (fun t_ k_ => XS.aloadN X1.here hx rfl (hb hby d16_17) rfl rfl k_) ?_
  show own_Go p e below _ T1 (mkF m 18 #[.val (.ref a1), .val (.int (0 : Int32)), .val (.int (3 : Int32)), .val (.ref r1), .val (.int (0 : Int32))] [(.ref a1), (.int (0 : Int32)), (.ref r1)])
  refine own_by (fun t_ k_ => XS.iloadN X1.here hx rfl (hb hby d16_18) rfl k_) ?_
  show own_Go p e below _ T1 (mkF m 19 #[.val (.ref a1), .val (.int (0 : Int32)), .val (.int (3 : Int32)), .val (.ref r1), .val (.int (0 : Int32))] [(.int (0 : Int32)), (.ref a1), (.int (0 : Int32)), (.ref r1)])
  have V_a1_2 : own_Arr Z T1.heap a1 .char [(.int c0), (.int c1), (.int c2)] := (own_Arr.keep V_a1 K1q nin0)
  refine own_caload X1 hx hZ rfl V_a1_2 (v := (.int c0)) 0 (by decide) rfl (hb hby d16_19) ?_
  show own_Go p e below _ T1 (mkF m 20 #[.val (.ref a1), .val (.int (0 : Int32)), .val (.int (3 : Int32)), .val (.ref r1), .val (.int (0 : Int32))] [(.int c0), (.int (0 : Int32)), (.ref r1)])
  have S_ad_3 : Sta Z T1.heap "java/lang/StringUTF16" "$assertionsDisabled" "Z" (.int (1 : Int32)) := (own_Sta_keep S_ad K1q ns0)
  have S_hb_4 : Sta Z T1.heap "java/lang/StringUTF16" "HI_BYTE_SHIFT" "I" (.int (0 : Int32)) := (own_Sta_keep S_hb K1q ns0)
  have S_lb_5 : Sta Z T1.heap "java/lang/StringUTF16" "LO_BYTE_SHIFT" "I" (.int (8 : Int32)) := (own_Sta_keep S_lb K1q ns0)
  refine own_callS (W := 0) X1 hx hZ (y := (⟨"java/lang/StringUTF16", "putChar", "([BII)V"⟩ : MethodName)) hown (own_w hw 96 rfl) (own_w hw 97 rfl) (own_w hw 19 rfl) (own_w hw 98 rfl) (by decide) (by rw [hml]; rfl) (argsL := [(.ref r1), (.int (0 : Int32)), (.int c0)]) pd_15 rfl (rm19 l Z a0 hw [] r1 (0 : Int32) c0 0 [(.int (0 : Int32)), (.int (0 : Int32)), (.int (0 : Int32)), (.int (0 : Int32)), (.int (0 : Int32)), (.int (0 : Int32))] T1.heap n0 sz1 S_ad_3 S_hb_4 S_lb_5 A1 g_r1 (by decide) (by simp) (by decide)) (by decide) (by decide) (Nat.le_of_eq rfl) (by decide) (by decide) (rest := []) rfl rfl (hb hby d16_20) ?_
  intro v6 T6 L6 X6 hQ6
  obtain ⟨rfl, N6q, K6q, A6⟩ := hQ6
  have N6 := Fr.app N1 N6q
  have sz6 : n0 ≤ T6.heap.size := Nat.le_trans sz1 K6q.1
  have K6 : Keep h0 T6.heap [] := K1.trans K6q (allS (Or.inr szk_r1) all0)
  have V6_0 : own_Arr Z T6.heap r1 .byte [(.int (own_b0 c0)), (.int (own_b1 c0)), (.int (0 : Int32)), (.int (0 : Int32)), (.int (0 : Int32)), (.int (0 : Int32))] := A6
  show own_Go p e below _ T6 (mkF m 23 #[.val (.ref a1), .val (.int (0 : Int32)), .val (.int (3 : Int32)), .val (.ref r1), .val (.int (0 : Int32))] [])
  refine own_by (fun t_ k_ => XS.iinc X6.here hx rfl (hb hby d16_23) rfl (l' := #[.val (.ref a1), .val (.int (1 : Int32)), .val (.int (3 : Int32)), .val (.ref r1), .val (.int (0 : Int32))]) rfl k_) ?_
  show own_Go p e below _ T6 (mkF m 26 #[.val (.ref a1), .val (.int (1 : Int32)), .val (.int (3 : Int32)), .val (.ref r1), .val (.int (0 : Int32))] [])
  refine own_by (fun t_ k_ => XS.iinc X6.here hx rfl (hb hby d16_26) rfl (l' := #[.val (.ref a1), .val (.int (1 : Int32)), .val (.int (3 : Int32)), .val (.ref r1), .val (.int (1 : Int32))]) rfl k_) ?_
  show own_Go p e below _ T6 (mkF m 29 #[.val (.ref a1), .val (.int (1 : Int32)), .val (.int (3 : Int32)), .val (.ref r1), .val (.int (1 : Int32))] [])
  refine own_by (fun t_ k_ => XS.goto X6.here hx rfl (pc0 := 29) (pc' := 8) rfl (hb hby d16_29) (by decide) (by decide) k_) ?_
  show own_Go p e below _ T6 (mkF m 8 #[.val (.ref a1), .val (.int (1 : Int32)), .val (.int (3 : Int32)), .val (.ref r1), .val (.int (1 : Int32))] [])
  refine own_by (fun t_ k_ => XS.iload X6.here hx rfl (hb hby d16_8) rfl k_) ?_
  show own_Go p e below _ T6 (mkF m 10 #[.val (.ref a1), .val (.int (1 : Int32)), .val (.int (3 : Int32)), .val (.ref r1), .val (.int (1 : Int32))] [(.int (1 : Int32))])
  refine own_by (fun t_ k_ => XS.iloadN X6.here hx rfl (hb hby d16_10) rfl k_) ?_
  show own_Go p e below _ T6 (mkF m 11 #[.val (.ref a1), .val (.int (1 : Int32)), .val (.int (3 : Int32)), .val (.ref r1), .val (.int (1 : Int32))] [(.int (3 : Int32)), (.int (1 : Int32))])
  refine own_icmp X6 hx 32 (hb hby d16_11) (by decide) (by decide) (fun hc => absurd (show (1 : Int32) < (3 : Int32) from by decide) (by first | exact hc | exact not_not_intro hc)) (fun _ => ?_)
  show own_Go p e below _ T6 (mkF m 14 #[.val (.ref a1), .val (.int (1 : Int32)), .val (.int (3 : Int32)), .val (.ref r1), .val (.int (1 : Int32))] [])
  refine own_by (fun t_ k_ => XS.aloadN X6.here hx rfl (hb hby d16_14) rfl rfl k_) ?_
  show own_Go p e below _ T6 (mkF m 15 #[.val (.ref a1), .val (.int (1 : Int32)), .val (.int (3 : Int32)), .val (.ref r1), .val (.int (1 : Int32))] [(.ref r1)])
  refine own_by (fun t_ k_ => XS.iload X6.here hx rfl (hb hby d16_15) rfl k_) ?_
  show own_Go p e below _ T6 (mkF m 17 #[.val (.ref a1), .val (.int (1 : Int32)), .val (.int (3 : Int32)), .val (.ref r1), .val (.int (1 : Int32))] [(.int (1 : Int32)), (.ref r1)])
  refine own_by (fun t_ k_ => XS.aloadN X6.here hx rfl (hb hby d16_17) rfl rfl k_) ?_
  show own_Go p e below _ T6 (mkF m 18 #[.val (.ref a1), .val (.int (1 : Int32)), .val (.int (3 : Int32)), .val (.ref r1), .val (.int (1 : Int32))] [(.ref a1), (.int (1 : Int32)), (.ref r1)])
  refine own_by (fun t_ k_ => XS.iloadN X6.here hx rfl (hb hby d16_18) rfl k_) ?_
  show own_Go p e below _ T6 (mkF m 19 #[.val (.ref a1), .val (.int (1 : Int32)), .val (.int (3 : Int32)), .val (.ref r1), .val (.int (1 : Int32))] [(.int (1 : Int32)), (.ref a1), (.int (1 : Int32)), (.ref r1)])
  have V_a1_7 : own_Arr Z T6.heap a1 .char [(.int c0), (.int c1), (.int c2)] := (own_Arr.keep V_a1_2 K6q (ninS (Nat.ne_of_lt lt_a1_r1) nin0))
  refine own_caload X6 hx hZ rfl V_a1_7 (v := (.int c1)) 1 (by decide) rfl (hb hby d16_19) ?_
  show own_Go p e below _ T6 (mkF m 20 #[.val (.ref a1), .val (.int (1 : Int32)), .val (.int (3 : Int32)), .val (.ref r1), .val (.int (1 : Int32))] [(.int c1), (.int (1 : Int32)), (.ref r1)])
  have S_ad_8 : Sta Z T6.heap "java/lang/StringUTF16" "$assertionsDisabled" "Z" (.int (1 : Int32)) := (own_Sta_keep S_ad_3 K6q (nsS (own_Arr.nostat A1) ns0))
  have S_hb_9 : Sta Z T6.heap "java/lang/StringUTF16" "HI_BYTE_SHIFT" "I" (.int (0 : Int32)) := (own_Sta_keep S_hb_4 K6q (nsS (own_Arr.nostat A1) ns0))
  have S_lb_10 : Sta Z T6.heap "java/lang/StringUTF16" "LO_BYTE_SHIFT" "I" (.int (8 : Int32)) := (own_Sta_keep S_lb_5 K6q (nsS (own_Arr.nostat A1) ns0))
  refine own_callS (W := 0) X6 hx hZ (y := (⟨"java/lang/StringUTF16", "putChar", "([BII)V"⟩ : MethodName)) hown (own_w hw 96 rfl) (own_w hw 97 rfl) (own_w hw 19 rfl) (own_w hw 98 rfl) (by decide) (by rw [hml]; rfl) (argsL := [(.ref r1), (.int (1 : Int32)), (.int c1)]) pd_15 rfl (rm19 l Z a0 hw [] r1 (1 : Int32) c1 2 [(.int (own_b0 c0)), (.int (own_b1 c0)), (.int (0 : Int32)), (.int (0 : Int32)), (.int (0 : Int32)), (.int (0 : Int32))] T6.heap n0 sz6 S_ad_8 S_hb_9 S_lb_10 V6_0 g_r1 (by decide) (by simp) (by decide)) (by decide) (by decide) (Nat.le_of_eq rfl) (by decide) (by decide) (rest := []) rfl rfl (hb hby d16_20) ?_
  intro v11 T11 L11 X11 hQ11
  obtain ⟨rfl, N11q, K11q, A11⟩ := hQ11
  have N11 := Fr.app N6 N11q
  have sz11 : n0 ≤ T11.heap.size := Nat.le_trans sz6 K11q.1
  have K11 : Keep h0 T11.heap [] := K6.trans K11q (allS (Or.inr szk_r1) all0)
  have V11_0 : own_Arr Z T11.heap r1 .byte [(.int (own_b0 c0)), (.int (own_b1 c0)), (.int (own_b0 c1)), (.int (own_b1 c1)), (.int (0 : Int32)), (.int (0 : Int32))] := A11
  show own_Go p e below _ T11 (mkF m 23 #[.val (.ref a1), .val (.int (1 : Int32)), .val (.int (3 : Int32)), .val (.ref r1), .val (.int (1 : Int32))] [])
  refine own_by (fun t_ k_ => XS.iinc X11.here hx rfl (hb hby d16_23) rfl (l' := #[.val (.ref a1), .val (.int (2 : Int32)), .val (.int (3 : Int32)), .val (.ref r1), .val (.int (1 : Int32))]) rfl k_) ?_
  show own_Go p e below _ T11 (mkF m 26 #[.val (.ref a1), .val (.int (2 : Int32)), .val (.int (3 : Int32)), .val (.ref r1), .val (.int (1 : Int32))] [])
  refine own_by (fun t_ k_ => XS.iinc X11.here hx rfl (hb hby d16_26) rfl (l' := #[.val (.ref a1), .val (.int (2 : Int32)), .val (.int (3 : Int32)), .val (.ref r1), .val (.int (2 : Int32))]) rfl k_) ?_
  show own_Go p e below _ T11 (mkF m 29 #[.val (.ref a1), .val (.int (2 : Int32)), .val (.int (3 : Int32)), .val (.ref r1), .val (.int (2 : Int32))] [])
  refine own_by (fun t_ k_ => XS.goto X11.here hx rfl (pc0 := 29) (pc' := 8) rfl (hb hby d16_29) (by decide) (by decide) k_) ?_
  show own_Go p e below _ T11 (mkF m 8 #[.val (.ref a1), .val (.int (2 : Int32)), .val (.int (3 : Int32)), .val (.ref r1), .val (.int (2 : Int32))] [])
  refine own_by (fun t_ k_ => XS.iload X11.here hx rfl (hb hby d16_8) rfl k_) ?_
  show own_Go p e below _ T11 (mkF m 10 #[.val (.ref a1), .val (.int (2 : Int32)), .val (.int (3 : Int32)), .val (.ref r1), .val (.int (2 : Int32))] [(.int (2 : Int32))])
  refine own_by (fun t_ k_ => XS.iloadN X11.here hx rfl (hb hby d16_10) rfl k_) ?_
  show own_Go p e below _ T11 (mkF m 11 #[.val (.ref a1), .val (.int (2 : Int32)), .val (.int (3 : Int32)), .val (.ref r1), .val (.int (2 : Int32))] [(.int (3 : Int32)), (.int (2 : Int32))])
  refine own_icmp X11 hx 32 (hb hby d16_11) (by decide) (by decide) (fun hc => absurd (show (2 : Int32) < (3 : Int32) from by decide) (by first | exact hc | exact not_not_intro hc)) (fun _ => ?_)
  show own_Go p e below _ T11 (mkF m 14 #[.val (.ref a1), .val (.int (2 : Int32)), .val (.int (3 : Int32)), .val (.ref r1), .val (.int (2 : Int32))] [])
  refine own_by (fun t_ k_ => XS.aloadN X11.here hx rfl (hb hby d16_14) rfl rfl k_) ?_
  show own_Go p e below _ T11 (mkF m 15 #[.val (.ref a1), .val (.int (2 : Int32)), .val (.int (3 : Int32)), .val (.ref r1), .val (.int (2 : Int32))] [(.ref r1)])
  refine own_by (fun t_ k_ => XS.iload X11.here hx rfl (hb hby d16_15) rfl k_) ?_
  show own_Go p e below _ T11 (mkF m 17 #[.val (.ref a1), .val (.int (2 : Int32)), .val (.int (3 : Int32)), .val (.ref r1), .val (.int (2 : Int32))] [(.int (2 : Int32)), (.ref r1)])
  refine own_by (fun t_ k_ => XS.aloadN X11.here hx rfl (hb hby d16_17) rfl rfl k_) ?_
  show own_Go p e below _ T11 (mkF m 18 #[.val (.ref a1), .val (.int (2 : Int32)), .val (.int (3 : Int32)), .val (.ref r1), .val (.int (2 : Int32))] [(.ref a1), (.int (2 : Int32)), (.ref r1)])
  refine own_by (fun t_ k_ => XS.iloadN X11.here hx rfl (hb hby d16_18) rfl k_) ?_
  show own_Go p e below _ T11 (mkF m 19 #[.val (.ref a1), .val (.int (2 : Int32)), .val (.int (3 : Int32)), .val (.ref r1), .val (.int (2 : Int32))] [(.int (2 : Int32)), (.ref a1), (.int (2 : Int32)), (.ref r1)])
  have V_a1_12 : own_Arr Z T11.heap a1 .char [(.int c0), (.int c1), (.int c2)] := (own_Arr.keep V_a1_7 K11q (ninS (Nat.ne_of_lt lt_a1_r1) nin0))
  refine own_caload X11 hx hZ rfl V_a1_12 (v := (.int c2)) 2 (by decide) rfl (hb hby d16_19) ?_
  show own_Go p e below _ T11 (mkF m 20 #[.val (.ref a1), .val (.int (2 : Int32)), .val (.int (3 : Int32)), .val (.ref r1), .val (.int (2 : Int32))] [(.int c2), (.int (2 : Int32)), (.ref r1)])
  have S_ad_13 : Sta Z T11.heap "java/lang/StringUTF16" "$assertionsDisabled" "Z" (.int (1 : Int32)) := (own_Sta_keep S_ad_8 K11q (nsS (own_Arr.nostat V6_0) ns0))
  have S_hb_14 : Sta Z T11.heap "java/lang/StringUTF16" "HI_BYTE_SHIFT" "I" (.int (0 : Int32)) := (own_Sta_keep S_hb_9 K11q (nsS (own_Arr.nostat V6_0) ns0))
  have S_lb_15 : Sta Z T11.heap "java/lang/StringUTF16" "LO_BYTE_SHIFT" "I" (.int (8 : Int32)) := (own_Sta_keep S_lb_10 K11q (nsS (own_Arr.nostat V6_0) ns0))
  refine own_callS (W := 0) X11 hx hZ (y := (⟨"java/lang/StringUTF16", "putChar", "([BII)V"⟩ : MethodName)) hown (own_w hw 96 rfl) (own_w hw 97 rfl) (own_w hw 19 rfl) (own_w hw 98 rfl) (by decide) (by rw [hml]; rfl) (argsL := [(.ref r1), (.int (2 : Int32)), (.int c2)]) pd_15 rfl (rm19 l Z a0 hw [] r1 (2 : Int32) c2 4 [(.int (own_b0 c0)), (.int (own_b1 c0)), (.int (own_b0 c1)), (.int (own_b1 c1)), (.int (0 : Int32)), (.int (0 : Int32))] T11.heap n0 sz11 S_ad_13 S_hb_14 S_lb_15 V11_0 g_r1 (by decide) (by simp) (by decide)) (by decide) (by decide) (Nat.le_of_eq rfl) (by decide) (by decide) (rest := []) rfl rfl (hb hby d16_20) ?_
  intro v16 T16 L16 X16 hQ16
  obtain ⟨rfl, N16q, K16q, A16⟩ := hQ16
  have N16 := Fr.app N11 N16q
  have sz16 : n0 ≤ T16.heap.size := Nat.le_trans sz11 K16q.1
  have K16 : Keep h0 T16.heap [] := K11.trans K16q (allS (Or.inr szk_r1) all0)
  have V16_0 : own_Arr Z T16.heap r1 .byte [(.int (own_b0 c0)), (.int (own_b1 c0)), (.int (own_b0 c1)), (.int (own_b1 c1)), (.int (own_b0 c2)), (.int (own_b1 c2))] := A16
  show own_Go p e below _ T16 (mkF m 23 #[.val (.ref a1), .val (.int (2 : Int32)), .val (.int (3 : Int32)), .val (.ref r1), .val (.int (2 : Int32))] [])
  refine own_by (fun t_ k_ => XS.iinc X16.here hx rfl (hb hby d16_23) rfl (l' := #[.val (.ref a1), .val (.int (3 : Int32)), .val (.int (3 : Int32)), .val (.ref r1), .val (.int (2 : Int32))]) rfl k_) ?_
  show own_Go p e below _ T16 (mkF m 26 #[.val (.ref a1), .val (.int (3 : Int32)), .val (.int (3 : Int32)), .val (.ref r1), .val (.int (2 : Int32))] [])
  refine own_by (fun t_ k_ => XS.iinc X16.here hx rfl (hb hby d16_26) rfl (l' := #[.val (.ref a1), .val (.int (3 : Int32)), .val (.int (3 : Int32)), .val (.ref r1), .val (.int (3 : Int32))]) rfl k_) ?_
  show own_Go p e below _ T16 (mkF m 29 #[.val (.ref a1), .val (.int (3 : Int32)), .val (.int (3 : Int32)), .val (.ref r1), .val (.int (3 : Int32))] [])
  refine own_by (fun t_ k_ => XS.goto X16.here hx rfl (pc0 := 29) (pc' := 8) rfl (hb hby d16_29) (by decide) (by decide) k_) ?_
  show own_Go p e below _ T16 (mkF m 8 #[.val (.ref a1), .val (.int (3 : Int32)), .val (.int (3 : Int32)), .val (.ref r1), .val (.int (3 : Int32))] [])
  refine own_by (fun t_ k_ => XS.iload X16.here hx rfl (hb hby d16_8) rfl k_) ?_
  show own_Go p e below _ T16 (mkF m 10 #[.val (.ref a1), .val (.int (3 : Int32)), .val (.int (3 : Int32)), .val (.ref r1), .val (.int (3 : Int32))] [(.int (3 : Int32))])
  refine own_by (fun t_ k_ => XS.iloadN X16.here hx rfl (hb hby d16_10) rfl k_) ?_
  show own_Go p e below _ T16 (mkF m 11 #[.val (.ref a1), .val (.int (3 : Int32)), .val (.int (3 : Int32)), .val (.ref r1), .val (.int (3 : Int32))] [(.int (3 : Int32)), (.int (3 : Int32))])
  refine own_icmp X16 hx 32 (hb hby d16_11) (by decide) (by decide) (fun _ => ?_) (fun hc => absurd (show ¬ (3 : Int32) < (3 : Int32) from by decide) (by first | exact hc | exact not_not_intro hc))
  show own_Go p e below _ T16 (mkF m 32 #[.val (.ref a1), .val (.int (3 : Int32)), .val (.int (3 : Int32)), .val (.ref r1), .val (.int (3 : Int32))] [])
  refine own_by (fun t_ k_ => XS.aloadN X16.here hx rfl (hb hby d16_32) rfl rfl k_) ?_
  show own_Go p e below _ T16 (mkF m 33 #[.val (.ref a1), .val (.int (3 : Int32)), .val (.int (3 : Int32)), .val (.ref r1), .val (.int (3 : Int32))] [(.ref r1)])
  refine own_retR X16 hx hlk Bd.returns rfl rfl rfl (hb hby d16_33) rfl (by decide) (by decide) ?_
  exact ⟨r1, rfl, N16, K16, szk_r1, V16_0⟩
theorem ef_5_3 (m : MethodId) (a1 : Addr) (a2 : Addr) : entryFrame m #[(.ref a1), (.int (0 : Int32)), (.ref a2), (.int (0 : Int32)), (.int (3 : Int32))] 7 = mkF m 0 #[.val (.ref a1), .val (.int (0 : Int32)), .val (.ref a2), .val (.int (0 : Int32)), .val (.int (3 : Int32)), .unset, .unset] [] := by first | (simp [entryFrame, mkF, argsToLocals, Value.category]; done) | rfl
set_option maxRecDepth 65536 in
set_option maxHeartbeats 40000000 in
theorem rm5_3 (l : Launch) (Z : State) (a0 : Array Value) (hw : ∀ d ∈ tables_1, d.before a0 Z = true) (ws : List Jvm.Cond) (a1 : Addr) (a2 : Addr) (c0 : Int32) (c1 : Int32) (c2 : Int32) (h0 : Heap) (n0 : Nat) (Z0 : n0 ≤ h0.size) (V_a1 : own_Arr Z h0 a1 .char [(.int c0), (.int c1), (.int c2)]) (V_a2 : own_Arr Z h0 a2 .byte [(.int (0 : Int32)), (.int (0 : Int32)), (.int (0 : Int32))]) (hne : a1 ≠ a2) (g_a2 : n0 ≤ a2) :
    MetFree l (⟨"java/lang/StringUTF16", "compress", "([CI[BII)I"⟩ : MethodName) (head1 (Jvm.Cond.code (⟨"java/lang/StringUTF16", "compress", "([CI[BII)I"⟩ : MethodName) jdk_52_method_21_code 7 (some .int) :: ws) ({ frames := 0, cells := 0, slots := 0, locals := 0 } : Room)) (fun a U => a = #[(.ref a1), (.int (0 : Int32)), (.ref a2), (.int (0 : Int32)), (.int (3 : Int32))] ∧ Z.Warmed39 U.vm ∧ U.heap = h0) (fun _ _ _ _ _ => True) (fun _ U o U' => ∃ v L, o = .returned v ∧ Q53 Z a2 c0 c1 c2 h0 n0 v U'.heap L ∧ FrameEnd U o U' L ({ frames := 0, cells := 0, slots := 0, locals := 0 } : Room).cells ({ frames := 0, cells := 0, slots := 0, locals := 0 } : Room).slots) := by
  refine MetFree.of_bodySF (plainFor_of_name pn_4) hisR ?_
  intro p e s m args below meth c s₁ Bd hml0 hP hK
  obtain ⟨rfl, hZ, hh⟩ := hP
  have hx := Bd.exec
  have hby := Bd.bytes
  have hml : c.maxLocals = 7 := hml0
  have hown : s.vm.findClass "java/lang/StringUTF16" = some m.cls := findClass_of_methodNamed Bd.named
  have hnm := (name_of_methodNamed Bd.named Bd.method).1
  have hlk : meth.locks = false := BodyLoose.notSynchronized Bd
  have X0 : Stand p l e ({ frames := 0, cells := 0, slots := 0, locals := 0 } : Room) s m #[(.ref a1), (.int (0 : Int32)), (.ref a2), (.int (0 : Int32)), (.int (3 : Int32))] below meth c s₁ [] 0 0 := Stand.of_body Bd
  have e0 : s₁.heap = h0 := by rw [← hh, Bd.state]; rfl
  have N0 := Fr.nil n0
  refine own_start (Q := Q53 Z a2 c0 c1 c2 h0 n0) (ef_5_3 m a1 a2) ?_
  have K0 := Keep.refl h0 [a2]
  show own_Go p e below _ s₁ (mkF m 0 #[.val (.ref a1), .val (.int (0 : Int32)), .val (.ref a2), .val (.int (0 : Int32)), .val (.int (3 : Int32)), .unset, .unset] [])
  refine own_by (fun t_ k_ => XS.iconst X0.here hx rfl (hb hby d5_0) k_) ?_
  show own_Go p e below _ s₁ (mkF m 1 #[.val (.ref a1), .val (.int (0 : Int32)), .val (.ref a2), .val (.int (0 : Int32)), .val (.int (3 : Int32)), .unset, .unset] [(.int (0 : Int32))])
  refine own_by (fun t_ k_ => XS.istore X0.here hx rfl (hb hby d5_1) rfl (l' := #[.val (.ref a1), .val (.int (0 : Int32)), .val (.ref a2), .val (.int (0 : Int32)), .val (.int (3 : Int32)), .val (.int (0 : Int32)), .unset]) rfl k_) ?_
  show own_Go p e below _ s₁ (mkF m 3 #[.val (.ref a1), .val (.int (0 : Int32)), .val (.ref a2), .val (.int (0 : Int32)), .val (.int (3 : Int32)), .val (.int (0 : Int32)), .unset] [])
  refine own_by (fun t_ k_ => XS.iload X0.here hx rfl (hb hby d5_3) rfl k_) ?_
  show own_Go p e below _ s₁ (mkF m 5 #[.val (.ref a1), .val (.int (0 : Int32)), .val (.ref a2), .val (.int (0 : Int32)), .val (.int (3 : Int32)), .val (.int (0 : Int32)), .unset] [(.int (0 : Int32))])
  refine own_by (fun t_ k_ => XS.iload X0.here hx rfl (hb hby d5_5) rfl k_) ?_
  show own_Go p e below _ s₁ (mkF m 7 #[.val (.ref a1), .val (.int (0 : Int32)), .val (.ref a2), .val (.int (0 : Int32)), .val (.int (3 : Int32)), .val (.int (0 : Int32)), .unset] [(.int (3 : Int32)), (.int (0 : Int32))])
  refine own_icmp X0 hx 44 (hb hby d5_7) (by decide) (by decide) (fun hc => absurd (show (0 : Int32) < (3 : Int32) from by decide) (by first | exact hc | exact not_not_intro hc)) (fun _ => ?_)
  show own_Go p e below _ s₁ (mkF m 10 #[.val (.ref a1), .val (.int (0 : Int32)), .val (.ref a2), .val (.int (0 : Int32)), .val (.int (3 : Int32)), .val (.int (0 : Int32)), .unset] [])
  refine own_by (fun t_ k_ => XS.aloadN X0.here hx rfl (hb hby d5_10) rfl rfl k_) ?_
  show own_Go p e below _ s₁ (mkF m 11 #[.val (.ref a1), .val (.int (0 : Int32)), .val (.ref a2), .val (.int (0 : Int32)), .val (.int (3 : Int32)), .val (.int (0 : Int32)), .unset] [(.ref a1)])
  refine own_by (fun t_ k_ => XS.iloadN X0.here hx rfl (hb hby d5_11) rfl k_) ?_
  show own_Go p e below _ s₁ (mkF m 12 #[.val (.ref a1), .val (.int (0 : Int32)), .val (.ref a2), .val (.int (0 : Int32)), .val (.int (3 : Int32)), .val (.int (0 : Int32)), .unset] [(.int (0 : Int32)), (.ref a1)])
  refine own_caload X0 hx hZ e0 V_a1 (v := (.int c0)) 0 (by decide) rfl (hb hby d5_12) ?_
  show own_Go p e below _ s₁ (mkF m 13 #[.val (.ref a1), .val (.int (0 : Int32)), .val (.ref a2), .val (.int (0 : Int32)), .val (.int (3 : Int32)), .val (.int (0 : Int32)), .unset] [(.int c0)])
  refine own_by (fun t_ k_ => XS.istore X0.here hx rfl (hb hby d5_13) rfl (l' := #[.val (.ref a1), .val (.int (0 : Int32)), .val (.ref a2), .val (.int (0 : Int32)), .val (.int (3 : Int32)), .val (.int (0 : Int32)), .val (.int c0)]) rfl k_) ?_
  show own_Go p e below _ s₁ (mkF m 15 #[.val (.ref a1), .val (.int (0 : Int32)), .val (.ref a2), .val (.int (0 : Int32)), .val (.int (3 : Int32)), .val (.int (0 : Int32)), .val (.int c0)] [])
  refine own_by (fun t_ k_ => XS.iload X0.here hx rfl (hb hby d5_15) rfl k_) ?_
  show own_Go p e below _ s₁ (mkF m 17 #[.val (.ref a1), .val (.int (0 : Int32)), .val (.ref a2), .val (.int (0 : Int32)), .val (.int (3 : Int32)), .val (.int (0 : Int32)), .val (.int c0)] [(.int c0)])
  refine own_by (fun t_ k_ => XS.sipush X0.here hx rfl (hb hby d5_17) k_) ?_
  show own_Go p e below _ s₁ (mkF m 20 #[.val (.ref a1), .val (.int (0 : Int32)), .val (.ref a2), .val (.int (0 : Int32)), .val (.int (3 : Int32)), .val (.int (0 : Int32)), .val (.int c0)] [(.int (255 : Int32)), (.int c0)])
  refine own_icmp X0 hx 26 (hb hby d5_20) (by decide) (by decide) (fun (hc20 : ¬ (255 : Int32) < c0) => ?_) (fun (hc20 : (255 : Int32) < c0) => ?_)
  · show own_Go p e below _ s₁ (mkF m 26 #[.val (.ref a1), .val (.int (0 : Int32)), .val (.ref a2), .val (.int (0 : Int32)), .val (.int (3 : Int32)), .val (.int (0 : Int32)), .val (.int c0)] [])
    refine own_by (fun t_ k_ => XS.aloadN X0.here hx rfl (hb hby d5_26) rfl rfl k_) ?_
    show own_Go p e below _ s₁ (mkF m 27 #[.val (.ref a1), .val (.int (0 : Int32)), .val (.ref a2), .val (.int (0 : Int32)), .val (.int (3 : Int32)), .val (.int (0 : Int32)), .val (.int c0)] [(.ref a2)])
    refine own_by (fun t_ k_ => XS.iloadN X0.here hx rfl (hb hby d5_27) rfl k_) ?_
    show own_Go p e below _ s₁ (mkF m 28 #[.val (.ref a1), .val (.int (0 : Int32)), .val (.ref a2), .val (.int (0 : Int32)), .val (.int (3 : Int32)), .val (.int (0 : Int32)), .val (.int c0)] [(.int (0 : Int32)), (.ref a2)])
    refine own_by (fun t_ k_ => XS.iload X0.here hx rfl (hb hby d5_28) rfl k_) ?_
    show own_Go p e below _ s₁ (mkF m 30 #[.val (.ref a1), .val (.int (0 : Int32)), .val (.ref a2), .val (.int (0 : Int32)), .val (.int (3 : Int32)), .val (.int (0 : Int32)), .val (.int c0)] [(.int c0), (.int (0 : Int32)), (.ref a2)])
    refine own_by (fun t_ k_ => XT.i2b X0.here hx rfl (hb hby d5_30) rfl k_) ?_
    show own_Go p e below _ s₁ (mkF m 31 #[.val (.ref a1), .val (.int (0 : Int32)), .val (.ref a2), .val (.int (0 : Int32)), .val (.int (3 : Int32)), .val (.int (0 : Int32)), .val (.int c0)] [(.int c0.toInt8.toInt32), (.int (0 : Int32)), (.ref a2)])
    refine own_bastore X0 hx hZ e0 V_a2 0 (by decide) (Nat.le_of_ble_eq_true rfl) (hb hby d5_31) ?_
    intro T1 h1 X1 e1 W1 A1
    have V1_0 : own_Arr Z h1 a2 .byte [(.int (nar .byte c0.toInt8.toInt32)), (.int (0 : Int32)), (.int (0 : Int32))] := A1
    have N1 := Fr.snoc X1 N0 g_a2
    have sz1 : n0 ≤ h1.size := Nat.le_trans Z0 (Keep.of_wr W1).1
    have K1 : Keep h0 h1 [a2] := K0.wr W1 (Or.inl (List.mem_cons_self ..))
    show own_Go p e below _ T1 (mkF m 32 #[.val (.ref a1), .val (.int (0 : Int32)), .val (.ref a2), .val (.int (0 : Int32)), .val (.int (3 : Int32)), .val (.int (0 : Int32)), .val (.int c0)] [])
    refine own_by (fun t_ k_ => XS.iinc X1.here hx rfl (hb hby d5_32) rfl (l' := #[.val (.ref a1), .val (.int (1 : Int32)), .val (.ref a2), .val (.int (0 : Int32)), .val (.int (3 : Int32)), .val (.int (0 : Int32)), .val (.int c0)]) rfl k_) ?_
    show own_Go p e below _ T1 (mkF m 35 #[.val (.ref a1), .val (.int (1 : Int32)), .val (.ref a2), .val (.int (0 : Int32)), .val (.int (3 : Int32)), .val (.int (0 : Int32)), .val (.int c0)] [])
    refine own_by (fun t_ k_ => XS.iinc X1.here hx rfl (hb hby d5_35) rfl (l' := #[.val (.ref a1), .val (.int (1 : Int32)), .val (.ref a2), .val (.int (1 : Int32)), .val (.int (3 : Int32)), .val (.int (0 : Int32)), .val (.int c0)]) rfl k_) ?_
    show own_Go p e below _ T1 (mkF m 38 #[.val (.ref a1), .val (.int (1 : Int32)), .val (.ref a2), .val (.int (1 : Int32)), .val (.int (3 : Int32)), .val (.int (0 : Int32)), .val (.int c0)] [])
    refine own_by (fun t_ k_ => XS.iinc X1.here hx rfl (hb hby d5_38) rfl (l' := #[.val (.ref a1), .val (.int (1 : Int32)), .val (.ref a2), .val (.int (1 : Int32)), .val (.int (3 : Int32)), .val (.int (1 : Int32)), .val (.int c0)]) rfl k_) ?_
    show own_Go p e below _ T1 (mkF m 41 #[.val (.ref a1), .val (.int (1 : Int32)), .val (.ref a2), .val (.int (1 : Int32)), .val (.int (3 : Int32)), .val (.int (1 : Int32)), .val (.int c0)] [])
    refine own_by (fun t_ k_ => XS.goto X1.here hx rfl (pc0 := 41) (pc' := 3) rfl (hb hby d5_41) (by decide) (by decide) k_) ?_
    show own_Go p e below _ T1 (mkF m 3 #[.val (.ref a1), .val (.int (1 : Int32)), .val (.ref a2), .val (.int (1 : Int32)), .val (.int (3 : Int32)), .val (.int (1 : Int32)), .val (.int c0)] [])
    refine own_by (fun t_ k_ => XS.iload X1.here hx rfl (hb hby d5_3) rfl k_) ?_
    show own_Go p e below _ T1 (mkF m 5 #[.val (.ref a1), .val (.int (1 : Int32)), .val (.ref a2), .val (.int (1 : Int32)), .val (.int (3 : Int32)), .val (.int (1 : Int32)), .val (.int c0)] [(.int (1 : Int32))])
    refine own_by (fun t_ k_ => XS.iload X1.here hx rfl (hb hby d5_5) rfl k_) ?_
    show own_Go p e below _ T1 (mkF m 7 #[.val (.ref a1), .val (.int (1 : Int32)), .val (.ref a2), .val (.int (1 : Int32)), .val (.int (3 : Int32)), .val (.int (1 : Int32)), .val (.int c0)] [(.int (3 : Int32)), (.int (1 : Int32))])
    refine own_icmp X1 hx 44 (hb hby d5_7) (by decide) (by decide) (fun hc => absurd (show (1 : Int32) < (3 : Int32) from by decide) (by first | exact hc | exact not_not_intro hc)) (fun _ => ?_)
    show own_Go p e below _ T1 (mkF m 10 #[.val (.ref a1), .val (.int (1 : Int32)), .val (.ref a2), .val (.int (1 : Int32)), .val (.int (3 : Int32)), .val (.int (1 : Int32)), .val (.int c0)] [])
    refine own_by (fun t_ k_ => XS.aloadN X1.here hx rfl (hb hby d5_10) rfl rfl k_) ?_
    show own_Go p e below _ T1 (mkF m 11 #[.val (.ref a1), .val (.int (1 : Int32)), .val (.ref a2), .val (.int (1 : Int32)), .val (.int (3 : Int32)), .val (.int (1 : Int32)), .val (.int c0)] [(.ref a1)])
    refine own_by (fun t_ k_ => XS.iloadN X1.here hx rfl (hb hby d5_11) rfl k_) ?_
    show own_Go p e below _ T1 (mkF m 12 #[.val (.ref a1), .val (.int (1 : Int32)), .val (.ref a2), .val (.int (1 : Int32)), .val (.int (3 : Int32)), .val (.int (1 : Int32)), .val (.int c0)] [(.int (1 : Int32)), (.ref a1)])
    have V_a1_2 : own_Arr Z h1 a1 .char [(.int c0), (.int c1), (.int c2)] := (own_Arr.other V_a1 W1 hne)
    refine own_caload X1 hx hZ e1 V_a1_2 (v := (.int c1)) 1 (by decide) rfl (hb hby d5_12) ?_
    show own_Go p e below _ T1 (mkF m 13 #[.val (.ref a1), .val (.int (1 : Int32)), .val (.ref a2), .val (.int (1 : Int32)), .val (.int (3 : Int32)), .val (.int (1 : Int32)), .val (.int c0)] [(.int c1)])
    refine own_by (fun t_ k_ => XS.istore X1.here hx rfl (hb hby d5_13) rfl (l' := #[.val (.ref a1), .val (.int (1 : Int32)), .val (.ref a2), .val (.int (1 : Int32)), .val (.int (3 : Int32)), .val (.int (1 : Int32)), .val (.int c1)]) rfl k_) ?_
    show own_Go p e below _ T1 (mkF m 15 #[.val (.ref a1), .val (.int (1 : Int32)), .val (.ref a2), .val (.int (1 : Int32)), .val (.int (3 : Int32)), .val (.int (1 : Int32)), .val (.int c1)] [])
    refine own_by (fun t_ k_ => XS.iload X1.here hx rfl (hb hby d5_15) rfl k_) ?_
    show own_Go p e below _ T1 (mkF m 17 #[.val (.ref a1), .val (.int (1 : Int32)), .val (.ref a2), .val (.int (1 : Int32)), .val (.int (3 : Int32)), .val (.int (1 : Int32)), .val (.int c1)] [(.int c1)])
    refine own_by (fun t_ k_ => XS.sipush X1.here hx rfl (hb hby d5_17) k_) ?_
    show own_Go p e below _ T1 (mkF m 20 #[.val (.ref a1), .val (.int (1 : Int32)), .val (.ref a2), .val (.int (1 : Int32)), .val (.int (3 : Int32)), .val (.int (1 : Int32)), .val (.int c1)] [(.int (255 : Int32)), (.int c1)])
    refine own_icmp X1 hx 26 (hb hby d5_20) (by decide) (by decide) (fun (hc20' : ¬ (255 : Int32) < c1) => ?_) (fun (hc20' : (255 : Int32) < c1) => ?_)
    · show own_Go p e below _ T1 (mkF m 26 #[.val (.ref a1), .val (.int (1 : Int32)), .val (.ref a2), .val (.int (1 : Int32)), .val (.int (3 : Int32)), .val (.int (1 : Int32)), .val (.int c1)] [])
      refine own_by (fun t_ k_ => XS.aloadN X1.here hx rfl (hb hby d5_26) rfl rfl k_) ?_
      show own_Go p e below _ T1 (mkF m 27 #[.val (.ref a1), .val (.int (1 : Int32)), .val (.ref a2), .val (.int (1 : Int32)), .val (.int (3 : Int32)), .val (.int (1 : Int32)), .val (.int c1)] [(.ref a2)])
      refine own_by (fun t_ k_ => XS.iloadN X1.here hx rfl (hb hby d5_27) rfl k_) ?_
      show own_Go p e below _ T1 (mkF m 28 #[.val (.ref a1), .val (.int (1 : Int32)), .val (.ref a2), .val (.int (1 : Int32)), .val (.int (3 : Int32)), .val (.int (1 : Int32)), .val (.int c1)] [(.int (1 : Int32)), (.ref a2)])
      refine own_by (fun t_ k_ => XS.iload X1.here hx rfl (hb hby d5_28) rfl k_) ?_
      show own_Go p e below _ T1 (mkF m 30 #[.val (.ref a1), .val (.int (1 : Int32)), .val (.ref a2), .val (.int (1 : Int32)), .val (.int (3 : Int32)), .val (.int (1 : Int32)), .val (.int c1)] [(.int c1), (.int (1 : Int32)), (.ref a2)])
      refine own_by (fun t_ k_ => XT.i2b X1.here hx rfl (hb hby d5_30) rfl k_) ?_
      show own_Go p e below _ T1 (mkF m 31 #[.val (.ref a1), .val (.int (1 : Int32)), .val (.ref a2), .val (.int (1 : Int32)), .val (.int (3 : Int32)), .val (.int (1 : Int32)), .val (.int c1)] [(.int c1.toInt8.toInt32), (.int (1 : Int32)), (.ref a2)])
      refine own_bastore X1 hx hZ e1 V1_0 1 (by decide) (Nat.le_of_ble_eq_true rfl) (hb hby d5_31) ?_
      intro T3 h3 X3 e3 W3 A3
      have V3_0 : own_Arr Z h3 a2 .byte [(.int (nar .byte c0.toInt8.toInt32)), (.int (nar .byte c1.toInt8.toInt32)), (.int (0 : Int32))] := A3
      have N3 := Fr.snoc X3 N1 g_a2
      have sz3 : n0 ≤ h3.size := Nat.le_trans sz1 (Keep.of_wr W3).1
      have K3 : Keep h0 h3 [a2] := K1.wr W3 (Or.inl (List.mem_cons_self ..))
      show own_Go p e below _ T3 (mkF m 32 #[.val (.ref a1), .val (.int (1 : Int32)), .val (.ref a2), .val (.int (1 : Int32)), .val (.int (3 : Int32)), .val (.int (1 : Int32)), .val (.int c1)] [])
      refine own_by (fun t_ k_ => XS.iinc X3.here hx rfl (hb hby d5_32) rfl (l' := #[.val (.ref a1), .val (.int (2 : Int32)), .val (.ref a2), .val (.int (1 : Int32)), .val (.int (3 : Int32)), .val (.int (1 : Int32)), .val (.int c1)]) rfl k_) ?_
      show own_Go p e below _ T3 (mkF m 35 #[.val (.ref a1), .val (.int (2 : Int32)), .val (.ref a2), .val (.int (1 : Int32)), .val (.int (3 : Int32)), .val (.int (1 : Int32)), .val (.int c1)] [])
      refine own_by (fun t_ k_ => XS.iinc X3.here hx rfl (hb hby d5_35) rfl (l' := #[.val (.ref a1), .val (.int (2 : Int32)), .val (.ref a2), .val (.int (2 : Int32)), .val (.int (3 : Int32)), .val (.int (1 : Int32)), .val (.int c1)]) rfl k_) ?_
      show own_Go p e below _ T3 (mkF m 38 #[.val (.ref a1), .val (.int (2 : Int32)), .val (.ref a2), .val (.int (2 : Int32)), .val (.int (3 : Int32)), .val (.int (1 : Int32)), .val (.int c1)] [])
      refine own_by (fun t_ k_ => XS.iinc X3.here hx rfl (hb hby d5_38) rfl (l' := #[.val (.ref a1), .val (.int (2 : Int32)), .val (.ref a2), .val (.int (2 : Int32)), .val (.int (3 : Int32)), .val (.int (2 : Int32)), .val (.int c1)]) rfl k_) ?_
      show own_Go p e below _ T3 (mkF m 41 #[.val (.ref a1), .val (.int (2 : Int32)), .val (.ref a2), .val (.int (2 : Int32)), .val (.int (3 : Int32)), .val (.int (2 : Int32)), .val (.int c1)] [])
      refine own_by (fun t_ k_ => XS.goto X3.here hx rfl (pc0 := 41) (pc' := 3) rfl (hb hby d5_41) (by decide) (by decide) k_) ?_
      show own_Go p e below _ T3 (mkF m 3 #[.val (.ref a1), .val (.int (2 : Int32)), .val (.ref a2), .val (.int (2 : Int32)), .val (.int (3 : Int32)), .val (.int (2 : Int32)), .val (.int c1)] [])
      refine own_by (fun t_ k_ => XS.iload X3.here hx rfl (hb hby d5_3) rfl k_) ?_
      show own_Go p e below _ T3 (mkF m 5 #[.val (.ref a1), .val (.int (2 : Int32)), .val (.ref a2), .val (.int (2 : Int32)), .val (.int (3 : Int32)), .val (.int (2 : Int32)), .val (.int c1)] [(.int (2 : Int32))])
      refine own_by (fun t_ k_ => XS.iload X3.here hx rfl (hb hby d5_5) rfl k_) ?_
      show own_Go p e below _ T3 (mkF m 7 #[.val (.ref a1), .val (.int (2 : Int32)), .val (.ref a2), .val (.int (2 : Int32)), .val (.int (3 : Int32)), .val (.int (2 : Int32)), .val (.int c1)] [(.int (3 : Int32)), (.int (2 : Int32))])
      refine own_icmp X3 hx 44 (hb hby d5_7) (by decide) (by decide) (fun hc => absurd (show (2 : Int32) < (3 : Int32) from by decide) (by first | exact hc | exact not_not_intro hc)) (fun _ => ?_)
      show own_Go p e below _ T3 (mkF m 10 #[.val (.ref a1), .val (.int (2 : Int32)), .val (.ref a2), .val (.int (2 : Int32)), .val (.int (3 : Int32)), .val (.int (2 : Int32)), .val (.int c1)] [])
      refine own_by (fun t_ k_ => XS.aloadN X3.here hx rfl (hb hby d5_10) rfl rfl k_) ?_
      show own_Go p e below _ T3 (mkF m 11 #[.val (.ref a1), .val (.int (2 : Int32)), .val (.ref a2), .val (.int (2 : Int32)), .val (.int (3 : Int32)), .val (.int (2 : Int32)), .val (.int c1)] [(.ref a1)])
      refine own_by (fun t_ k_ => XS.iloadN X3.here hx rfl (hb hby d5_11) rfl k_) ?_
      show own_Go p e below _ T3 (mkF m 12 #[.val (.ref a1), .val (.int (2 : Int32)), .val (.ref a2), .val (.int (2 : Int32)), .val (.int (3 : Int32)), .val (.int (2 : Int32)), .val (.int c1)] [(.int (2 : Int32)), (.ref a1)])
      have V_a1_4 : own_Arr Z h3 a1 .char [(.int c0), (.int c1), (.int c2)] := (own_Arr.other V_a1_2 W3 hne)
      refine own_caload X3 hx hZ e3 V_a1_4 (v := (.int c2)) 2 (by decide) rfl (hb hby d5_12) ?_
      show own_Go p e below _ T3 (mkF m 13 #[.val (.ref a1), .val (.int (2 : Int32)), .val (.ref a2), .val (.int (2 : Int32)), .val (.int (3 : Int32)), .val (.int (2 : Int32)), .val (.int c1)] [(.int c2)])
      refine own_by (fun t_ k_ => XS.istore X3.here hx rfl (hb hby d5_13) rfl (l' := #[.val (.ref a1), .val (.int (2 : Int32)), .val (.ref a2), .val (.int (2 : Int32)), .val (.int (3 : Int32)), .val (.int (2 : Int32)), .val (.int c2)]) rfl k_) ?_
      show own_Go p e below _ T3 (mkF m 15 #[.val (.ref a1), .val (.int (2 : Int32)), .val (.ref a2), .val (.int (2 : Int32)), .val (.int (3 : Int32)), .val (.int (2 : Int32)), .val (.int c2)] [])
      refine own_by (fun t_ k_ => XS.iload X3.here hx rfl (hb hby d5_15) rfl k_) ?_
      show own_Go p e below _ T3 (mkF m 17 #[.val (.ref a1), .val (.int (2 : Int32)), .val (.ref a2), .val (.int (2 : Int32)), .val (.int (3 : Int32)), .val (.int (2 : Int32)), .val (.int c2)] [(.int c2)])
      refine own_by (fun t_ k_ => XS.sipush X3.here hx rfl (hb hby d5_17) k_) ?_
      show own_Go p e below _ T3 (mkF m 20 #[.val (.ref a1), .val (.int (2 : Int32)), .val (.ref a2), .val (.int (2 : Int32)), .val (.int (3 : Int32)), .val (.int (2 : Int32)), .val (.int c2)] [(.int (255 : Int32)), (.int c2)])
      refine own_icmp X3 hx 26 (hb hby d5_20) (by decide) (by decide) (fun (hc20'' : ¬ (255 : Int32) < c2) => ?_) (fun (hc20'' : (255 : Int32) < c2) => ?_)
      · show own_Go p e below _ T3 (mkF m 26 #[.val (.ref a1), .val (.int (2 : Int32)), .val (.ref a2), .val (.int (2 : Int32)), .val (.int (3 : Int32)), .val (.int (2 : Int32)), .val (.int c2)] [])
        refine own_by (fun t_ k_ => XS.aloadN X3.here hx rfl (hb hby d5_26) rfl rfl k_) ?_
        show own_Go p e below _ T3 (mkF m 27 #[.val (.ref a1), .val (.int (2 : Int32)), .val (.ref a2), .val (.int (2 : Int32)), .val (.int (3 : Int32)), .val (.int (2 : Int32)), .val (.int c2)] [(.ref a2)])
        refine own_by (fun t_ k_ => XS.iloadN X3.here hx rfl (hb hby d5_27) rfl k_) ?_
        show own_Go p e below _ T3 (mkF m 28 #[.val (.ref a1), .val (.int (2 : Int32)), .val (.ref a2), .val (.int (2 : Int32)), .val (.int (3 : Int32)), .val (.int (2 : Int32)), .val (.int c2)] [(.int (2 : Int32)), (.ref a2)])
        refine own_by (fun t_ k_ => XS.iload X3.here hx rfl (hb hby d5_28) rfl k_) ?_
        show own_Go p e below _ T3 (mkF m 30 #[.val (.ref a1), .val (.int (2 : Int32)), .val (.ref a2), .val (.int (2 : Int32)), .val (.int (3 : Int32)), .val (.int (2 : Int32)), .val (.int c2)] [(.int c2), (.int (2 : Int32)), (.ref a2)])
        refine own_by (fun t_ k_ => XT.i2b X3.here hx rfl (hb hby d5_30) rfl k_) ?_
        show own_Go p e below _ T3 (mkF m 31 #[.val (.ref a1), .val (.int (2 : Int32)), .val (.ref a2), .val (.int (2 : Int32)), .val (.int (3 : Int32)), .val (.int (2 : Int32)), .val (.int c2)] [(.int c2.toInt8.toInt32), (.int (2 : Int32)), (.ref a2)])
        refine own_bastore X3 hx hZ e3 V3_0 2 (by decide) (Nat.le_of_ble_eq_true rfl) (hb hby d5_31) ?_
        intro T5 h5 X5 e5 W5 A5
        have V5_0 : own_Arr Z h5 a2 .byte [(.int (nar .byte c0.toInt8.toInt32)), (.int (nar .byte c1.toInt8.toInt32)), (.int (nar .byte c2.toInt8.toInt32))] := A5
        have N5 := Fr.snoc X5 N3 g_a2
        have sz5 : n0 ≤ h5.size := Nat.le_trans sz3 (Keep.of_wr W5).1
        have K5 : Keep h0 h5 [a2] := K3.wr W5 (Or.inl (List.mem_cons_self ..))
        show own_Go p e below _ T5 (mkF m 32 #[.val (.ref a1), .val (.int (2 : Int32)), .val (.ref a2), .val (.int (2 : Int32)), .val (.int (3 : Int32)), .val (.int (2 : Int32)), .val (.int c2)] [])
        refine own_by (fun t_ k_ => XS.iinc X5.here hx rfl (hb hby d5_32) rfl (l' := #[.val (.ref a1), .val (.int (3 : Int32)), .val (.ref a2), .val (.int (2 : Int32)), .val (.int (3 : Int32)), .val (.int (2 : Int32)), .val (.int c2)]) rfl k_) ?_
        show own_Go p e below _ T5 (mkF m 35 #[.val (.ref a1), .val (.int (3 : Int32)), .val (.ref a2), .val (.int (2 : Int32)), .val (.int (3 : Int32)), .val (.int (2 : Int32)), .val (.int c2)] [])
        refine own_by (fun t_ k_ => XS.iinc X5.here hx rfl (hb hby d5_35) rfl (l' := #[.val (.ref a1), .val (.int (3 : Int32)), .val (.ref a2), .val (.int (3 : Int32)), .val (.int (3 : Int32)), .val (.int (2 : Int32)), .val (.int c2)]) rfl k_) ?_
        show own_Go p e below _ T5 (mkF m 38 #[.val (.ref a1), .val (.int (3 : Int32)), .val (.ref a2), .val (.int (3 : Int32)), .val (.int (3 : Int32)), .val (.int (2 : Int32)), .val (.int c2)] [])
        refine own_by (fun t_ k_ => XS.iinc X5.here hx rfl (hb hby d5_38) rfl (l' := #[.val (.ref a1), .val (.int (3 : Int32)), .val (.ref a2), .val (.int (3 : Int32)), .val (.int (3 : Int32)), .val (.int (3 : Int32)), .val (.int c2)]) rfl k_) ?_
        show own_Go p e below _ T5 (mkF m 41 #[.val (.ref a1), .val (.int (3 : Int32)), .val (.ref a2), .val (.int (3 : Int32)), .val (.int (3 : Int32)), .val (.int (3 : Int32)), .val (.int c2)] [])
        refine own_by (fun t_ k_ => XS.goto X5.here hx rfl (pc0 := 41) (pc' := 3) rfl (hb hby d5_41) (by decide) (by decide) k_) ?_
        show own_Go p e below _ T5 (mkF m 3 #[.val (.ref a1), .val (.int (3 : Int32)), .val (.ref a2), .val (.int (3 : Int32)), .val (.int (3 : Int32)), .val (.int (3 : Int32)), .val (.int c2)] [])
        refine own_by (fun t_ k_ => XS.iload X5.here hx rfl (hb hby d5_3) rfl k_) ?_
        show own_Go p e below _ T5 (mkF m 5 #[.val (.ref a1), .val (.int (3 : Int32)), .val (.ref a2), .val (.int (3 : Int32)), .val (.int (3 : Int32)), .val (.int (3 : Int32)), .val (.int c2)] [(.int (3 : Int32))])
        refine own_by (fun t_ k_ => XS.iload X5.here hx rfl (hb hby d5_5) rfl k_) ?_
        show own_Go p e below _ T5 (mkF m 7 #[.val (.ref a1), .val (.int (3 : Int32)), .val (.ref a2), .val (.int (3 : Int32)), .val (.int (3 : Int32)), .val (.int (3 : Int32)), .val (.int c2)] [(.int (3 : Int32)), (.int (3 : Int32))])
        refine own_icmp X5 hx 44 (hb hby d5_7) (by decide) (by decide) (fun _ => ?_) (fun hc => absurd (show ¬ (3 : Int32) < (3 : Int32) from by decide) (by first | exact hc | exact not_not_intro hc))
        show own_Go p e below _ T5 (mkF m 44 #[.val (.ref a1), .val (.int (3 : Int32)), .val (.ref a2), .val (.int (3 : Int32)), .val (.int (3 : Int32)), .val (.int (3 : Int32)), .val (.int c2)] [])
        refine own_by (fun t_ k_ => XS.iload X5.here hx rfl (hb hby d5_44) rfl k_) ?_
        show own_Go p e below _ T5 (mkF m 46 #[.val (.ref a1), .val (.int (3 : Int32)), .val (.ref a2), .val (.int (3 : Int32)), .val (.int (3 : Int32)), .val (.int (3 : Int32)), .val (.int c2)] [(.int (3 : Int32))])
        refine own_retI X5 hx hlk Bd.returns (hb hby d5_46) e5 (by decide) (by decide) ?_
        exact ⟨_, _, rfl, N5, K5, V5_0, rfl, Or.inl rfl⟩
      · show own_Go p e below _ T3 (mkF m 23 #[.val (.ref a1), .val (.int (2 : Int32)), .val (.ref a2), .val (.int (2 : Int32)), .val (.int (3 : Int32)), .val (.int (2 : Int32)), .val (.int c2)] [])
        refine own_by (fun t_ k_ => XS.iload X3.here hx rfl (hb hby d5_23) rfl k_) ?_
        show own_Go p e below _ T3 (mkF m 25 #[.val (.ref a1), .val (.int (2 : Int32)), .val (.ref a2), .val (.int (2 : Int32)), .val (.int (3 : Int32)), .val (.int (2 : Int32)), .val (.int c2)] [(.int (2 : Int32))])
        refine own_retI X3 hx hlk Bd.returns (hb hby d5_25) e3 (by decide) (by decide) ?_
        exact ⟨_, _, rfl, N3, K3, V3_0, rfl, Or.inr (Or.inr (Or.inr (⟨rfl, hc20''⟩)))⟩
    · show own_Go p e below _ T1 (mkF m 23 #[.val (.ref a1), .val (.int (1 : Int32)), .val (.ref a2), .val (.int (1 : Int32)), .val (.int (3 : Int32)), .val (.int (1 : Int32)), .val (.int c1)] [])
      refine own_by (fun t_ k_ => XS.iload X1.here hx rfl (hb hby d5_23) rfl k_) ?_
      show own_Go p e below _ T1 (mkF m 25 #[.val (.ref a1), .val (.int (1 : Int32)), .val (.ref a2), .val (.int (1 : Int32)), .val (.int (3 : Int32)), .val (.int (1 : Int32)), .val (.int c1)] [(.int (1 : Int32))])
      refine own_retI X1 hx hlk Bd.returns (hb hby d5_25) e1 (by decide) (by decide) ?_
      exact ⟨_, _, rfl, N1, K1, V1_0, rfl, Or.inr (Or.inr (Or.inl ⟨rfl, hc20'⟩))⟩
  · show own_Go p e below _ s₁ (mkF m 23 #[.val (.ref a1), .val (.int (0 : Int32)), .val (.ref a2), .val (.int (0 : Int32)), .val (.int (3 : Int32)), .val (.int (0 : Int32)), .val (.int c0)] [])
    refine own_by (fun t_ k_ => XS.iload X0.here hx rfl (hb hby d5_23) rfl k_) ?_
    show own_Go p e below _ s₁ (mkF m 25 #[.val (.ref a1), .val (.int (0 : Int32)), .val (.ref a2), .val (.int (0 : Int32)), .val (.int (3 : Int32)), .val (.int (0 : Int32)), .val (.int c0)] [(.int (0 : Int32))])
    refine own_retI X0 hx hlk Bd.returns (hb hby d5_25) e0 (by decide) (by decide) ?_
    exact ⟨_, _, rfl, N0, K0, V_a2, rfl, Or.inr (Or.inl ⟨rfl, hc20⟩)⟩
theorem ef_4_3 (m : MethodId) (a1 : Addr) : entryFrame m #[(.ref a1), (.int (0 : Int32)), (.int (3 : Int32))] 6 = mkF m 0 #[.val (.ref a1), .val (.int (0 : Int32)), .val (.int (3 : Int32)), .unset, .unset, .unset] [] := by first | (simp [entryFrame, mkF, argsToLocals, Value.category]; done) | rfl
set_option maxRecDepth 65536 in
set_option maxHeartbeats 40000000 in
theorem rm4_3 (l : Launch) (Z : State) (a0 : Array Value) (hw : ∀ d ∈ tables_1, d.before a0 Z = true) (ws : List Jvm.Cond) (a1 : Addr) (c0 : Int32) (c1 : Int32) (c2 : Int32) (h0 : Heap) (n0 : Nat) (Z0 : n0 ≤ h0.size) (S_ad : Sta Z h0 "java/lang/StringUTF16" "$assertionsDisabled" "Z" (.int (1 : Int32))) (S_hb : Sta Z h0 "java/lang/StringUTF16" "HI_BYTE_SHIFT" "I" (.int (0 : Int32))) (S_lb : Sta Z h0 "java/lang/StringUTF16" "LO_BYTE_SHIFT" "I" (.int (8 : Int32))) (V_a1 : own_Arr Z h0 a1 .char [(.int c0), (.int c1), (.int c2)]) (ok0 : own_Ok c0) (ok1 : own_Ok c1) (ok2 : own_Ok c2) :
    MetFree l (⟨"java/lang/StringUTF16", "compress", "([CII)[B"⟩ : MethodName) (head1 (Jvm.Cond.code (⟨"java/lang/StringUTF16", "compress", "([CII)[B"⟩ : MethodName) jdk_52_method_16_code 6 (some (.array .byte)) :: ws) ({ frames := 3, cells := 2, slots := 9, locals := 50 } : Room)) (fun a U => a = #[(.ref a1), (.int (0 : Int32)), (.int (3 : Int32))] ∧ Z.Warmed39 U.vm ∧ U.heap = h0) (fun _ _ _ _ _ => True) (fun _ U o U' => ∃ v L, o = .returned v ∧ Q4 Z 3 h0 n0 v U'.heap L ∧ FrameEnd U o U' L ({ frames := 3, cells := 2, slots := 9, locals := 50 } : Room).cells ({ frames := 3, cells := 2, slots := 9, locals := 50 } : Room).slots) := by
  refine MetFree.of_bodySF (plainFor_of_name pn_4) hisR ?_
  intro p e s m args below meth c s₁ Bd hml0 hP hK
  obtain ⟨rfl, hZ, hh⟩ := hP
  have hx := Bd.exec
  have hby := Bd.bytes
  have hml : c.maxLocals = 6 := hml0
  have hown : s.vm.findClass "java/lang/StringUTF16" = some m.cls := findClass_of_methodNamed Bd.named
  have hnm := (name_of_methodNamed Bd.named Bd.method).1
  have hlk : meth.locks = false := BodyLoose.notSynchronized Bd
  have X0 : Stand p l e ({ frames := 3, cells := 2, slots := 9, locals := 50 } : Room) s m #[(.ref a1), (.int (0 : Int32)), (.int (3 : Int32))] below meth c s₁ [] 0 0 := Stand.of_body Bd
  have e0 : s₁.heap = h0 := by rw [← hh, Bd.state]; rfl
  have N0 := Fr.nil n0
  refine own_start (Q := Q4 Z 3 h0 n0) (ef_4_3 m a1) ?_
  have K0 := Keep.refl h0 []
  show own_Go p e below _ s₁ (mkF m 0 #[.val (.ref a1), .val (.int (0 : Int32)), .val (.int (3 : Int32)), .unset, .unset, .unset] [])
  refine own_by (fun t_ k_ => XS.iloadN X0.here hx rfl (hb hby d4_0) rfl k_) ?_
  show own_Go p e below _ s₁ (mkF m 1 #[.val (.ref a1), .val (.int (0 : Int32)), .val (.int (3 : Int32)), .unset, .unset, .unset] [(.int (3 : Int32))])
  refine own_newP X0 hx hZ (own_w hw 21 rfl) e0 (hb hby d4_1) 3 3 (by decide) (by decide) (by decide) (by decide) (by decide) ?_
  intro T1 h1 b1 X1 e1 g1 E1 A1
  have lt_a1_b1 : a1 < b1 := Nat.lt_of_lt_of_le V_a1.lt (Nat.le_of_eq g1.symm)
  have g_b1 : n0 ≤ b1 := Nat.le_trans Z0 (Nat.le_of_eq g1.symm)
  have sz1 : n0 ≤ h1.size := Nat.le_trans Z0 E1.1
  have szk_b1 : h0.size ≤ b1 := Nat.le_trans K0.1 (Nat.le_of_eq g1.symm)
  have K1 : Keep h0 h1 [] := K0.ext E1
  have V1_0 : own_Arr Z h1 b1 .byte [(.int (0 : Int32)), (.int (0 : Int32)), (.int (0 : Int32))] := A1
  show own_Go p e below _ T1 (mkF m 3 #[.val (.ref a1), .val (.int (0 : Int32)), .val (.int (3 : Int32)), .unset, .unset, .unset] [(.ref b1)])
  refine own_by (fun t_ k_ => XS.astoreN X1.here hx rfl (hb hby d4_3) rfl rfl (l' := #[.val (.ref a1), .val (.int (0 : Int32)), .val (.int (3 : Int32)), .val (.ref b1), .unset, .unset]) rfl k_) ?_
  show own_Go p e below _ T1 (mkF m 4 #[.val (.ref a1), .val (.int (0 : Int32)), .val (.int (3 : Int32)), .val (.ref b1), .unset, .unset] [])
  refine own_by (fun t_ k_ => XS.aloadN X1.here hx rfl (hb hby d4_4) rfl rfl k_) ?_
  show own_Go p e below _ T1 (mkF m 5 #[.val (.ref a1), .val (.int (0 : Int32)), .val (.int (3 : Int32)), .val (.ref b1), .unset, .unset] [(.ref a1)])
  refine own_by (fun t_ k_ => XS.iloadN X1.here hx rfl (hb hby d4_5) rfl k_) ?_
  show own_Go p e below _ T1 (mkF m 6 #[.val (.ref a1), .val (.int (0 : Int32)), .val (.int (3 : Int32)), .val (.ref b1), .unset, .unset] [(.int (0 : Int32)), (.ref a1)])
  refine own_by (fun t_ k_ => XS.aloadN X1.here hx rfl (hb hby d4_6) rfl rfl k_) ?_
  show own_Go p e below _ T1 (mkF m 7 #[.val (.ref a1), .val (.int (0 : Int32)), .val (.int (3 : Int32)), .val (.ref b1), .unset, .unset] [(.ref b1), (.int (0 : Int32)), (.ref a1)])
  refine own_by (fun t_ k_ => XS.iconst X1.here hx rfl (hb hby d4_7) k_) ?_
  show own_Go p e below _ T1 (mkF m 8 #[.val (.ref a1), .val (.int (0 : Int32)), .val (.int (3 : Int32)), .val (.ref b1), .unset, .unset] [(.int (0 : Int32)), (.ref b1), (.int (0 : Int32)), (.ref a1)])
  refine own_by (fun t_ k_ => XS.iloadN X1.here hx rfl (hb hby d4_8) rfl k_) ?_
  show own_Go p e below _ T1 (mkF m 9 #[.val (.ref a1), .val (.int (0 : Int32)), .val (.int (3 : Int32)), .val (.ref b1), .unset, .unset] [(.int (3 : Int32)), (.int (0 : Int32)), (.ref b1), (.int (0 : Int32)), (.ref a1)])
  have V_a1_2 : own_Arr Z h1 a1 .char [(.int c0), (.int c1), (.int c2)] := (own_Arr.ext V_a1 E1)
  refine own_callS (W := 0) X1 hx hZ (y := (⟨"java/lang/StringUTF16", "compress", "([CI[BII)I"⟩ : MethodName)) hown (own_w hw 22 rfl) (own_w hw 23 rfl) (own_w hw 19 rfl) (own_w hw 24 rfl) (by decide) (by rw [hml]; rfl) (argsL := [(.ref a1), (.int (0 : Int32)), (.ref b1), (.int (0 : Int32)), (.int (3 : Int32))]) pd_4 rfl (rm5_3 l Z a0 hw [] a1 b1 c0 c1 c2 h1 n0 sz1 V_a1_2 V1_0 (Nat.ne_of_lt lt_a1_b1) g_b1) (by decide) (by decide) (Nat.le_of_eq rfl) (by decide) (by decide) (rest := []) e1 rfl (hb hby d4_9) ?_
  intro v3 T3 L3 X3 hQ3
  obtain ⟨z3, vs3, rfl, N3q, K3q, A3, hl3, hz3⟩ := hQ3
  have N3 := Fr.app N0 N3q
  have sz3 : n0 ≤ T3.heap.size := Nat.le_trans sz1 K3q.1
  have K3 : Keep h0 T3.heap [] := K1.trans K3q (allS (Or.inr szk_b1) all0)
  rcases hz3 with rfl | ⟨rfl, hbig⟩ | ⟨rfl, hbig⟩ | ⟨rfl, hbig⟩
  · show own_Go p e below _ T3 (mkF m 12 #[.val (.ref a1), .val (.int (0 : Int32)), .val (.int (3 : Int32)), .val (.ref b1), .unset, .unset] [(.int (3 : Int32))])
    refine own_by (fun t_ k_ => XS.istore X3.here hx rfl (hb hby d4_12) rfl (l' := #[.val (.ref a1), .val (.int (0 : Int32)), .val (.int (3 : Int32)), .val (.ref b1), .val (.int (3 : Int32)), .unset]) rfl k_) ?_
    show own_Go p e below _ T3 (mkF m 14 #[.val (.ref a1), .val (.int (0 : Int32)), .val (.int (3 : Int32)), .val (.ref b1), .val (.int (3 : Int32)), .unset] [])
    refine own_by (fun t_ k_ => XS.iload X3.here hx rfl (hb hby d4_14) rfl k_) ?_
    show own_Go p e below _ T3 (mkF m 16 #[.val (.ref a1), .val (.int (0 : Int32)), .val (.int (3 : Int32)), .val (.ref b1), .val (.int (3 : Int32)), .unset] [(.int (3 : Int32))])
    refine own_by (fun t_ k_ => XS.iloadN X3.here hx rfl (hb hby d4_16) rfl k_) ?_
    show own_Go p e below _ T3 (mkF m 17 #[.val (.ref a1), .val (.int (0 : Int32)), .val (.int (3 : Int32)), .val (.ref b1), .val (.int (3 : Int32)), .unset] [(.int (3 : Int32)), (.int (3 : Int32))])
    refine own_icmp X3 hx 57 (hb hby d4_17) (by decide) (by decide) (fun _ => ?_) (fun hc => absurd (show (3 : Int32) = (3 : Int32) from by decide) (by first | exact hc | exact not_not_intro hc))
    show own_Go p e below _ T3 (mkF m 57 #[.val (.ref a1), .val (.int (0 : Int32)), .val (.int (3 : Int32)), .val (.ref b1), .val (.int (3 : Int32)), .unset] [])
    refine own_by (fun t_ k_ => XS.aloadN X3.here hx rfl (hb hby d4_57) rfl rfl k_) ?_
    show own_Go p e below _ T3 (mkF m 58 #[.val (.ref a1), .val (.int (0 : Int32)), .val (.int (3 : Int32)), .val (.ref b1), .val (.int (3 : Int32)), .unset] [(.ref b1)])
    refine own_retR X3 hx hlk Bd.returns rfl rfl rfl (hb hby d4_58) rfl (by decide) (by decide) ?_
    exact ⟨b1, _, 3, rfl, N3, K3, A3, hl3, Or.inl rfl⟩
  · show own_Go p e below _ T3 (mkF m 12 #[.val (.ref a1), .val (.int (0 : Int32)), .val (.int (3 : Int32)), .val (.ref b1), .unset, .unset] [(.int (0 : Int32))])
    refine own_by (fun t_ k_ => XS.istore X3.here hx rfl (hb hby d4_12) rfl (l' := #[.val (.ref a1), .val (.int (0 : Int32)), .val (.int (3 : Int32)), .val (.ref b1), .val (.int (0 : Int32)), .unset]) rfl k_) ?_
    show own_Go p e below _ T3 (mkF m 14 #[.val (.ref a1), .val (.int (0 : Int32)), .val (.int (3 : Int32)), .val (.ref b1), .val (.int (0 : Int32)), .unset] [])
    refine own_by (fun t_ k_ => XS.iload X3.here hx rfl (hb hby d4_14) rfl k_) ?_
    show own_Go p e below _ T3 (mkF m 16 #[.val (.ref a1), .val (.int (0 : Int32)), .val (.int (3 : Int32)), .val (.ref b1), .val (.int (0 : Int32)), .unset] [(.int (0 : Int32))])
    refine own_by (fun t_ k_ => XS.iloadN X3.here hx rfl (hb hby d4_16) rfl k_) ?_
    show own_Go p e below _ T3 (mkF m 17 #[.val (.ref a1), .val (.int (0 : Int32)), .val (.int (3 : Int32)), .val (.ref b1), .val (.int (0 : Int32)), .unset] [(.int (3 : Int32)), (.int (0 : Int32))])
    refine own_icmp X3 hx 57 (hb hby d4_17) (by decide) (by decide) (fun hc => absurd (show ¬ (0 : Int32) = (3 : Int32) from by decide) (by first | exact hc | exact not_not_intro hc)) (fun _ => ?_)
    show own_Go p e below _ T3 (mkF m 20 #[.val (.ref a1), .val (.int (0 : Int32)), .val (.int (3 : Int32)), .val (.ref b1), .val (.int (0 : Int32)), .unset] [])
    refine own_by (fun t_ k_ => XS.aloadN X3.here hx rfl (hb hby d4_20) rfl rfl k_) ?_
    show own_Go p e below _ T3 (mkF m 21 #[.val (.ref a1), .val (.int (0 : Int32)), .val (.int (3 : Int32)), .val (.ref b1), .val (.int (0 : Int32)), .unset] [(.ref a1)])
    refine own_by (fun t_ k_ => XS.iloadN X3.here hx rfl (hb hby d4_21) rfl k_) ?_
    show own_Go p e below _ T3 (mkF m 22 #[.val (.ref a1), .val (.int (0 : Int32)), .val (.int (3 : Int32)), .val (.ref b1), .val (.int (0 : Int32)), .unset] [(.int (0 : Int32)), (.ref a1)])
    refine own_by (fun t_ k_ => XS.iloadN X3.here hx rfl (hb hby d4_22) rfl k_) ?_
    show own_Go p e below _ T3 (mkF m 23 #[.val (.ref a1), .val (.int (0 : Int32)), .val (.int (3 : Int32)), .val (.ref b1), .val (.int (0 : Int32)), .unset] [(.int (3 : Int32)), (.int (0 : Int32)), (.ref a1)])
    have V_a1_4 : own_Arr Z T3.heap a1 .char [(.int c0), (.int c1), (.int c2)] := (own_Arr.keep V_a1_2 K3q (ninS (Nat.ne_of_lt lt_a1_b1) nin0))
    have S_ad_5 : Sta Z T3.heap "java/lang/StringUTF16" "$assertionsDisabled" "Z" (.int (1 : Int32)) := (own_Sta_keep (Sta.ext E1 S_ad) K3q (nsS (own_Arr.nostat V1_0) ns0))
    have S_hb_6 : Sta Z T3.heap "java/lang/StringUTF16" "HI_BYTE_SHIFT" "I" (.int (0 : Int32)) := (own_Sta_keep (Sta.ext E1 S_hb) K3q (nsS (own_Arr.nostat V1_0) ns0))
    have S_lb_7 : Sta Z T3.heap "java/lang/StringUTF16" "LO_BYTE_SHIFT" "I" (.int (8 : Int32)) := (own_Sta_keep (Sta.ext E1 S_lb) K3q (nsS (own_Arr.nostat V1_0) ns0))
    refine own_callS (W := 0) X3 hx hZ (y := (⟨"java/lang/StringUTF16", "toBytes", "([CII)[B"⟩ : MethodName)) hown (own_w hw 86 rfl) (own_w hw 87 rfl) (own_w hw 19 rfl) (own_w hw 88 rfl) (by decide) (by rw [hml]; rfl) (argsL := [(.ref a1), (.int (0 : Int32)), (.int (3 : Int32))]) pd_3 rfl (rm16_3 l Z a0 hw [] a1 c0 c1 c2 T3.heap n0 sz3 S_ad_5 S_hb_6 S_lb_7 V_a1_4) (by decide) (by decide) (Nat.le_of_eq rfl) (by decide) (by decide) (rest := []) rfl rfl (hb hby d4_23) ?_
    intro v8 T8 L8 X8 hQ8
    obtain ⟨r8, rfl, N8q, K8q, hb8, A8⟩ := hQ8
    have N8 := Fr.app N3 N8q
    have sz8 : n0 ≤ T8.heap.size := Nat.le_trans sz3 K8q.1
    have K8 : Keep h0 T8.heap [] := K3.trans K8q (all0)
    show own_Go p e below _ T8 (mkF m 26 #[.val (.ref a1), .val (.int (0 : Int32)), .val (.int (3 : Int32)), .val (.ref b1), .val (.int (0 : Int32)), .unset] [(.ref r8)])
    refine own_by (fun t_ k_ => XS.astore X8.here hx rfl (hb hby d4_26) rfl rfl (l' := #[.val (.ref a1), .val (.int (0 : Int32)), .val (.int (3 : Int32)), .val (.ref b1), .val (.int (0 : Int32)), .val (.ref r8)]) rfl k_) ?_
    show own_Go p e below _ T8 (mkF m 28 #[.val (.ref a1), .val (.int (0 : Int32)), .val (.int (3 : Int32)), .val (.ref b1), .val (.int (0 : Int32)), .val (.ref r8)] [])
    refine own_by (fun t_ k_ => XS.aload X8.here hx rfl (hb hby d4_28) rfl rfl k_) ?_
    show own_Go p e below _ T8 (mkF m 30 #[.val (.ref a1), .val (.int (0 : Int32)), .val (.int (3 : Int32)), .val (.ref b1), .val (.int (0 : Int32)), .val (.ref r8)] [(.ref r8)])
    refine own_by (fun t_ k_ => XS.iload X8.here hx rfl (hb hby d4_30) rfl k_) ?_
    show own_Go p e below _ T8 (mkF m 32 #[.val (.ref a1), .val (.int (0 : Int32)), .val (.int (3 : Int32)), .val (.ref b1), .val (.int (0 : Int32)), .val (.ref r8)] [(.int (0 : Int32)), (.ref r8)])
    have S_ad_9 : Sta Z T8.heap "java/lang/StringUTF16" "$assertionsDisabled" "Z" (.int (1 : Int32)) := (own_Sta_keep S_ad_5 K8q ns0)
    have S_hb_10 : Sta Z T8.heap "java/lang/StringUTF16" "HI_BYTE_SHIFT" "I" (.int (0 : Int32)) := (own_Sta_keep S_hb_6 K8q ns0)
    have S_lb_11 : Sta Z T8.heap "java/lang/StringUTF16" "LO_BYTE_SHIFT" "I" (.int (8 : Int32)) := (own_Sta_keep S_lb_7 K8q ns0)
    refine own_callS (W := 0) X8 hx hZ (y := (⟨"java/lang/StringUTF16", "getChar", "([BI)C"⟩ : MethodName)) hown (own_w hw 102 rfl) (own_w hw 103 rfl) (own_w hw 19 rfl) (own_w hw 104 rfl) (by decide) (by rw [hml]; rfl) (argsL := [(.ref r8), (.int (0 : Int32))]) pd_16 rfl (rm20 l Z a0 hw [] r8 (0 : Int32) 0 [(.int (own_b0 c0)), (.int (own_b1 c0)), (.int (own_b0 c1)), (.int (own_b1 c1)), (.int (own_b0 c2)), (.int (own_b1 c2))] (own_b0 c0) (own_b1 c0) T8.heap n0 sz8 S_ad_9 S_hb_10 S_lb_11 A8 (by decide) (by decide) rfl rfl) (by decide) (by decide) (Nat.le_of_eq rfl) (by decide) (by decide) (rest := []) rfl rfl (hb hby d4_32) ?_
    intro v12 T12 L12 X12 hQ12
    obtain ⟨rfl, N12q, e12⟩ := hQ12
    have N12 := Fr.app N8 N12q
    show own_Go p e below _ T12 (mkF m 35 #[.val (.ref a1), .val (.int (0 : Int32)), .val (.int (3 : Int32)), .val (.ref b1), .val (.int (0 : Int32)), .val (.ref r8)] [(.int (own_ch (own_b0 c0) (own_b1 c0)))])
    refine own_by (fun t_ k_ => XS.sipush X12.here hx rfl (hb hby d4_35) k_) ?_
    show own_Go p e below _ T12 (mkF m 38 #[.val (.ref a1), .val (.int (0 : Int32)), .val (.int (3 : Int32)), .val (.ref b1), .val (.int (0 : Int32)), .val (.ref r8)] [(.int (255 : Int32)), (.int (own_ch (own_b0 c0) (own_b1 c0)))])
    refine own_icmp X12 hx 54 (hb hby d4_38) (by decide) (by decide) (fun _ => ?_) (fun hc => absurd (show (255 : Int32) < (own_ch (own_b0 c0) (own_b1 c0)) from by rw [own_chb ok0]; exact hbig) (by first | exact hc | exact not_not_intro hc))
    show own_Go p e below _ T12 (mkF m 54 #[.val (.ref a1), .val (.int (0 : Int32)), .val (.int (3 : Int32)), .val (.ref b1), .val (.int (0 : Int32)), .val (.ref r8)] [])
    refine own_by (fun t_ k_ => XS.aload X12.here hx rfl (hb hby d4_54) rfl rfl k_) ?_
    show own_Go p e below _ T12 (mkF m 56 #[.val (.ref a1), .val (.int (0 : Int32)), .val (.int (3 : Int32)), .val (.ref b1), .val (.int (0 : Int32)), .val (.ref r8)] [(.ref r8)])
    refine own_retR X12 hx hlk Bd.returns rfl rfl rfl (hb hby d4_56) e12 (by decide) (by decide) ?_
    exact ⟨r8, _, 6, rfl, N12, K8, A8, rfl, Or.inr rfl⟩
  · show own_Go p e below _ T3 (mkF m 12 #[.val (.ref a1), .val (.int (0 : Int32)), .val (.int (3 : Int32)), .val (.ref b1), .unset, .unset] [(.int (1 : Int32))])
    refine own_by (fun t_ k_ => XS.istore X3.here hx rfl (hb hby d4_12) rfl (l' := #[.val (.ref a1), .val (.int (0 : Int32)), .val (.int (3 : Int32)), .val (.ref b1), .val (.int (1 : Int32)), .unset]) rfl k_) ?_
    show own_Go p e below _ T3 (mkF m 14 #[.val (.ref a1), .val (.int (0 : Int32)), .val (.int (3 : Int32)), .val (.ref b1), .val (.int (1 : Int32)), .unset] [])
    refine own_by (fun t_ k_ => XS.iload X3.here hx rfl (hb hby d4_14) rfl k_) ?_
    show own_Go p e below _ T3 (mkF m 16 #[.val (.ref a1), .val (.int (0 : Int32)), .val (.int (3 : Int32)), .val (.ref b1), .val (.int (1 : Int32)), .unset] [(.int (1 : Int32))])
    refine own_by (fun t_ k_ => XS.iloadN X3.here hx rfl (hb hby d4_16) rfl k_) ?_
    show own_Go p e below _ T3 (mkF m 17 #[.val (.ref a1), .val (.int (0 : Int32)), .val (.int (3 : Int32)), .val (.ref b1), .val (.int (1 : Int32)), .unset] [(.int (3 : Int32)), (.int (1 : Int32))])
    refine own_icmp X3 hx 57 (hb hby d4_17) (by decide) (by decide) (fun hc => absurd (show ¬ (1 : Int32) = (3 : Int32) from by decide) (by first | exact hc | exact not_not_intro hc)) (fun _ => ?_)
    show own_Go p e below _ T3 (mkF m 20 #[.val (.ref a1), .val (.int (0 : Int32)), .val (.int (3 : Int32)), .val (.ref b1), .val (.int (1 : Int32)), .unset] [])
    refine own_by (fun t_ k_ => XS.aloadN X3.here hx rfl (hb hby d4_20) rfl rfl k_) ?_
    show own_Go p e below _ T3 (mkF m 21 #[.val (.ref a1), .val (.int (0 : Int32)), .val (.int (3 : Int32)), .val (.ref b1), .val (.int (1 : Int32)), .unset] [(.ref a1)])
    refine own_by (fun t_ k_ => XS.iloadN X3.here hx rfl (hb hby d4_21) rfl k_) ?_
    show own_Go p e below _ T3 (mkF m 22 #[.val (.ref a1), .val (.int (0 : Int32)), .val (.int (3 : Int32)), .val (.ref b1), .val (.int (1 : Int32)), .unset] [(.int (0 : Int32)), (.ref a1)])
    refine own_by (fun t_ k_ => XS.iloadN X3.here hx rfl (hb hby d4_22) rfl k_) ?_
    show own_Go p e below _ T3 (mkF m 23 #[.val (.ref a1), .val (.int (0 : Int32)), .val (.int (3 : Int32)), .val (.ref b1), .val (.int (1 : Int32)), .unset] [(.int (3 : Int32)), (.int (0 : Int32)), (.ref a1)])
    have V_a1_13 : own_Arr Z T3.heap a1 .char [(.int c0), (.int c1), (.int c2)] := (own_Arr.keep V_a1_2 K3q (ninS (Nat.ne_of_lt lt_a1_b1) nin0))
    have S_ad_14 : Sta Z T3.heap "java/lang/StringUTF16" "$assertionsDisabled" "Z" (.int (1 : Int32)) := (own_Sta_keep (Sta.ext E1 S_ad) K3q (nsS (own_Arr.nostat V1_0) ns0))
    have S_hb_15 : Sta Z T3.heap "java/lang/StringUTF16" "HI_BYTE_SHIFT" "I" (.int (0 : Int32)) := (own_Sta_keep (Sta.ext E1 S_hb) K3q (nsS (own_Arr.nostat V1_0) ns0))
    have S_lb_16 : Sta Z T3.heap "java/lang/StringUTF16" "LO_BYTE_SHIFT" "I" (.int (8 : Int32)) := (own_Sta_keep (Sta.ext E1 S_lb) K3q (nsS (own_Arr.nostat V1_0) ns0))
    refine own_callS (W := 0) X3 hx hZ (y := (⟨"java/lang/StringUTF16", "toBytes", "([CII)[B"⟩ : MethodName)) hown (own_w hw 86 rfl) (own_w hw 87 rfl) (own_w hw 19 rfl) (own_w hw 88 rfl) (by decide) (by rw [hml]; rfl) (argsL := [(.ref a1), (.int (0 : Int32)), (.int (3 : Int32))]) pd_3 rfl (rm16_3 l Z a0 hw [] a1 c0 c1 c2 T3.heap n0 sz3 S_ad_14 S_hb_15 S_lb_16 V_a1_13) (by decide) (by decide) (Nat.le_of_eq rfl) (by decide) (by decide) (rest := []) rfl rfl (hb hby d4_23) ?_
    intro v17 T17 L17 X17 hQ17
    obtain ⟨r17, rfl, N17q, K17q, hb17, A17⟩ := hQ17
    have N17 := Fr.app N3 N17q
    have sz17 : n0 ≤ T17.heap.size := Nat.le_trans sz3 K17q.1
    have K17 : Keep h0 T17.heap [] := K3.trans K17q (all0)
    show own_Go p e below _ T17 (mkF m 26 #[.val (.ref a1), .val (.int (0 : Int32)), .val (.int (3 : Int32)), .val (.ref b1), .val (.int (1 : Int32)), .unset] [(.ref r17)])
    refine own_by (fun t_ k_ => XS.astore X17.here hx rfl (hb hby d4_26) rfl rfl (l' := #[.val (.ref a1), .val (.int (0 : Int32)), .val (.int (3 : Int32)), .val (.ref b1), .val (.int (1 : Int32)), .val (.ref r17)]) rfl k_) ?_
    show own_Go p e below _ T17 (mkF m 28 #[.val (.ref a1), .val (.int (0 : Int32)), .val (.int (3 : Int32)), .val (.ref b1), .val (.int (1 : Int32)), .val (.ref r17)] [])
    refine own_by (fun t_ k_ => XS.aload X17.here hx rfl (hb hby d4_28) rfl rfl k_) ?_
    show own_Go p e below _ T17 (mkF m 30 #[.val (.ref a1), .val (.int (0 : Int32)), .val (.int (3 : Int32)), .val (.ref b1), .val (.int (1 : Int32)), .val (.ref r17)] [(.ref r17)])
    refine own_by (fun t_ k_ => XS.iload X17.here hx rfl (hb hby d4_30) rfl k_) ?_
    show own_Go p e below _ T17 (mkF m 32 #[.val (.ref a1), .val (.int (0 : Int32)), .val (.int (3 : Int32)), .val (.ref b1), .val (.int (1 : Int32)), .val (.ref r17)] [(.int (1 : Int32)), (.ref r17)])
    have S_ad_18 : Sta Z T17.heap "java/lang/StringUTF16" "$assertionsDisabled" "Z" (.int (1 : Int32)) := (own_Sta_keep S_ad_14 K17q ns0)
    have S_hb_19 : Sta Z T17.heap "java/lang/StringUTF16" "HI_BYTE_SHIFT" "I" (.int (0 : Int32)) := (own_Sta_keep S_hb_15 K17q ns0)
    have S_lb_20 : Sta Z T17.heap "java/lang/StringUTF16" "LO_BYTE_SHIFT" "I" (.int (8 : Int32)) := (own_Sta_keep S_lb_16 K17q ns0)
    refine own_callS (W := 0) X17 hx hZ (y := (⟨"java/lang/StringUTF16", "getChar", "([BI)C"⟩ : MethodName)) hown (own_w hw 102 rfl) (own_w hw 103 rfl) (own_w hw 19 rfl) (own_w hw 104 rfl) (by decide) (by rw [hml]; rfl) (argsL := [(.ref r17), (.int (1 : Int32))]) pd_16 rfl (rm20 l Z a0 hw [] r17 (1 : Int32) 2 [(.int (own_b0 c0)), (.int (own_b1 c0)), (.int (own_b0 c1)), (.int (own_b1 c1)), (.int (own_b0 c2)), (.int (own_b1 c2))] (own_b0 c1) (own_b1 c1) T17.heap n0 sz17 S_ad_18 S_hb_19 S_lb_20 A17 (by decide) (by decide) rfl rfl) (by decide) (by decide) (Nat.le_of_eq rfl) (by decide) (by decide) (rest := []) rfl rfl (hb hby d4_32) ?_
    intro v21 T21 L21 X21 hQ21
    obtain ⟨rfl, N21q, e21⟩ := hQ21
    have N21 := Fr.app N17 N21q
    show own_Go p e below _ T21 (mkF m 35 #[.val (.ref a1), .val (.int (0 : Int32)), .val (.int (3 : Int32)), .val (.ref b1), .val (.int (1 : Int32)), .val (.ref r17)] [(.int (own_ch (own_b0 c1) (own_b1 c1)))])
    refine own_by (fun t_ k_ => XS.sipush X21.here hx rfl (hb hby d4_35) k_) ?_
    show own_Go p e below _ T21 (mkF m 38 #[.val (.ref a1), .val (.int (0 : Int32)), .val (.int (3 : Int32)), .val (.ref b1), .val (.int (1 : Int32)), .val (.ref r17)] [(.int (255 : Int32)), (.int (own_ch (own_b0 c1) (own_b1 c1)))])
    refine own_icmp X21 hx 54 (hb hby d4_38) (by decide) (by decide) (fun _ => ?_) (fun hc => absurd (show (255 : Int32) < (own_ch (own_b0 c1) (own_b1 c1)) from by rw [own_chb ok1]; exact hbig) (by first | exact hc | exact not_not_intro hc))
    show own_Go p e below _ T21 (mkF m 54 #[.val (.ref a1), .val (.int (0 : Int32)), .val (.int (3 : Int32)), .val (.ref b1), .val (.int (1 : Int32)), .val (.ref r17)] [])
    refine own_by (fun t_ k_ => XS.aload X21.here hx rfl (hb hby d4_54) rfl rfl k_) ?_
    show own_Go p e below _ T21 (mkF m 56 #[.val (.ref a1), .val (.int (0 : Int32)), .val (.int (3 : Int32)), .val (.ref b1), .val (.int (1 : Int32)), .val (.ref r17)] [(.ref r17)])
    refine own_retR X21 hx hlk Bd.returns rfl rfl rfl (hb hby d4_56) e21 (by decide) (by decide) ?_
    exact ⟨r17, _, 6, rfl, N21, K17, A17, rfl, Or.inr rfl⟩
  · show own_Go p e below _ T3 (mkF m 12 #[.val (.ref a1), .val (.int (0 : Int32)), .val (.int (3 : Int32)), .val (.ref b1), .unset, .unset] [(.int (2 : Int32))])
    refine own_by (fun t_ k_ => XS.istore X3.here hx rfl (hb hby d4_12) rfl (l' := #[.val (.ref a1), .val (.int (0 : Int32)), .val (.int (3 : Int32)), .val (.ref b1), .val (.int (2 : Int32)), .unset]) rfl k_) ?_
    show own_Go p e below _ T3 (mkF m 14 #[.val (.ref a1), .val (.int (0 : Int32)), .val (.int (3 : Int32)), .val (.ref b1), .val (.int (2 : Int32)), .unset] [])
    refine own_by (fun t_ k_ => XS.iload X3.here hx rfl (hb hby d4_14) rfl k_) ?_
    show own_Go p e below _ T3 (mkF m 16 #[.val (.ref a1), .val (.int (0 : Int32)), .val (.int (3 : Int32)), .val (.ref b1), .val (.int (2 : Int32)), .unset] [(.int (2 : Int32))])
    refine own_by (fun t_ k_ => XS.iloadN X3.here hx rfl (hb hby d4_16) rfl k_) ?_
    show own_Go p e below _ T3 (mkF m 17 #[.val (.ref a1), .val (.int (0 : Int32)), .val (.int (3 : Int32)), .val (.ref b1), .val (.int (2 : Int32)), .unset] [(.int (3 : Int32)), (.int (2 : Int32))])
    refine own_icmp X3 hx 57 (hb hby d4_17) (by decide) (by decide) (fun hc => absurd (show ¬ (2 : Int32) = (3 : Int32) from by decide) (by first | exact hc | exact not_not_intro hc)) (fun _ => ?_)
    show own_Go p e below _ T3 (mkF m 20 #[.val (.ref a1), .val (.int (0 : Int32)), .val (.int (3 : Int32)), .val (.ref b1), .val (.int (2 : Int32)), .unset] [])
    refine own_by (fun t_ k_ => XS.aloadN X3.here hx rfl (hb hby d4_20) rfl rfl k_) ?_
    show own_Go p e below _ T3 (mkF m 21 #[.val (.ref a1), .val (.int (0 : Int32)), .val (.int (3 : Int32)), .val (.ref b1), .val (.int (2 : Int32)), .unset] [(.ref a1)])
    refine own_by (fun t_ k_ => XS.iloadN X3.here hx rfl (hb hby d4_21) rfl k_) ?_
    show own_Go p e below _ T3 (mkF m 22 #[.val (.ref a1), .val (.int (0 : Int32)), .val (.int (3 : Int32)), .val (.ref b1), .val (.int (2 : Int32)), .unset] [(.int (0 : Int32)), (.ref a1)])
    refine own_by (fun t_ k_ => XS.iloadN X3.here hx rfl (hb hby d4_22) rfl k_) ?_
    show own_Go p e below _ T3 (mkF m 23 #[.val (.ref a1), .val (.int (0 : Int32)), .val (.int (3 : Int32)), .val (.ref b1), .val (.int (2 : Int32)), .unset] [(.int (3 : Int32)), (.int (0 : Int32)), (.ref a1)])
    have V_a1_22 : own_Arr Z T3.heap a1 .char [(.int c0), (.int c1), (.int c2)] := (own_Arr.keep V_a1_2 K3q (ninS (Nat.ne_of_lt lt_a1_b1) nin0))
    have S_ad_23 : Sta Z T3.heap "java/lang/StringUTF16" "$assertionsDisabled" "Z" (.int (1 : Int32)) := (own_Sta_keep (Sta.ext E1 S_ad) K3q (nsS (own_Arr.nostat V1_0) ns0))
    have S_hb_24 : Sta Z T3.heap "java/lang/StringUTF16" "HI_BYTE_SHIFT" "I" (.int (0 : Int32)) := (own_Sta_keep (Sta.ext E1 S_hb) K3q (nsS (own_Arr.nostat V1_0) ns0))
    have S_lb_25 : Sta Z T3.heap "java/lang/StringUTF16" "LO_BYTE_SHIFT" "I" (.int (8 : Int32)) := (own_Sta_keep (Sta.ext E1 S_lb) K3q (nsS (own_Arr.nostat V1_0) ns0))
    refine own_callS (W := 0) X3 hx hZ (y := (⟨"java/lang/StringUTF16", "toBytes", "([CII)[B"⟩ : MethodName)) hown (own_w hw 86 rfl) (own_w hw 87 rfl) (own_w hw 19 rfl) (own_w hw 88 rfl) (by decide) (by rw [hml]; rfl) (argsL := [(.ref a1), (.int (0 : Int32)), (.int (3 : Int32))]) pd_3 rfl (rm16_3 l Z a0 hw [] a1 c0 c1 c2 T3.heap n0 sz3 S_ad_23 S_hb_24 S_lb_25 V_a1_22) (by decide) (by decide) (Nat.le_of_eq rfl) (by decide) (by decide) (rest := []) rfl rfl (hb hby d4_23) ?_
    intro v26 T26 L26 X26 hQ26
    obtain ⟨r26, rfl, N26q, K26q, hb26, A26⟩ := hQ26
    have N26 := Fr.app N3 N26q
    have sz26 : n0 ≤ T26.heap.size := Nat.le_trans sz3 K26q.1
    have K26 : Keep h0 T26.heap [] := K3.trans K26q (all0)
    show own_Go p e below _ T26 (mkF m 26 #[.val (.ref a1), .val (.int (0 : Int32)), .val (.int (3 : Int32)), .val (.ref b1), .val (.int (2 : Int32)), .unset] [(.ref r26)])
    refine own_by (fun t_ k_ => XS.astore X26.here hx rfl (hb hby d4_26) rfl rfl (l' := #[.val (.ref a1), .val (.int (0 : Int32)), .val (.int (3 : Int32)), .val (.ref b1), .val (.int (2 : Int32)), .val (.ref r26)]) rfl k_) ?_
    show own_Go p e below _ T26 (mkF m 28 #[.val (.ref a1), .val (.int (0 : Int32)), .val (.int (3 : Int32)), .val (.ref b1), .val (.int (2 : Int32)), .val (.ref r26)] [])
    refine own_by (fun t_ k_ => XS.aload X26.here hx rfl (hb hby d4_28) rfl rfl k_) ?_
    show own_Go p e below _ T26 (mkF m 30 #[.val (.ref a1), .val (.int (0 : Int32)), .val (.int (3 : Int32)), .val (.ref b1), .val (.int (2 : Int32)), .val (.ref r26)] [(.ref r26)])
    refine own_by (fun t_ k_ => XS.iload X26.here hx rfl (hb hby d4_30) rfl k_) ?_
    show own_Go p e below _ T26 (mkF m 32 #[.val (.ref a1), .val (.int (0 : Int32)), .val (.int (3 : Int32)), .val (.ref b1), .val (.int (2 : Int32)), .val (.ref r26)] [(.int (2 : Int32)), (.ref r26)])
    have S_ad_27 : Sta Z T26.heap "java/lang/StringUTF16" "$assertionsDisabled" "Z" (.int (1 : Int32)) := (own_Sta_keep S_ad_23 K26q ns0)
    have S_hb_28 : Sta Z T26.heap "java/lang/StringUTF16" "HI_BYTE_SHIFT" "I" (.int (0 : Int32)) := (own_Sta_keep S_hb_24 K26q ns0)
    have S_lb_29 : Sta Z T26.heap "java/lang/StringUTF16" "LO_BYTE_SHIFT" "I" (.int (8 : Int32)) := (own_Sta_keep S_lb_25 K26q ns0)
    refine own_callS (W := 0) X26 hx hZ (y := (⟨"java/lang/StringUTF16", "getChar", "([BI)C"⟩ : MethodName)) hown (own_w hw 102 rfl) (own_w hw 103 rfl) (own_w hw 19 rfl) (own_w hw 104 rfl) (by decide) (by rw [hml]; rfl) (argsL := [(.ref r26), (.int (2 : Int32))]) pd_16 rfl (rm20 l Z a0 hw [] r26 (2 : Int32) 4 [(.int (own_b0 c0)), (.int (own_b1 c0)), (.int (own_b0 c1)), (.int (own_b1 c1)), (.int (own_b0 c2)), (.int (own_b1 c2))] (own_b0 c2) (own_b1 c2) T26.heap n0 sz26 S_ad_27 S_hb_28 S_lb_29 A26 (by decide) (by decide) rfl rfl) (by decide) (by decide) (Nat.le_of_eq rfl) (by decide) (by decide) (rest := []) rfl rfl (hb hby d4_32) ?_
    intro v30 T30 L30 X30 hQ30
    obtain ⟨rfl, N30q, e30⟩ := hQ30
    have N30 := Fr.app N26 N30q
    show own_Go p e below _ T30 (mkF m 35 #[.val (.ref a1), .val (.int (0 : Int32)), .val (.int (3 : Int32)), .val (.ref b1), .val (.int (2 : Int32)), .val (.ref r26)] [(.int (own_ch (own_b0 c2) (own_b1 c2)))])
    refine own_by (fun t_ k_ => XS.sipush X30.here hx rfl (hb hby d4_35) k_) ?_
    show own_Go p e below _ T30 (mkF m 38 #[.val (.ref a1), .val (.int (0 : Int32)), .val (.int (3 : Int32)), .val (.ref b1), .val (.int (2 : Int32)), .val (.ref r26)] [(.int (255 : Int32)), (.int (own_ch (own_b0 c2) (own_b1 c2)))])
    refine own_icmp X30 hx 54 (hb hby d4_38) (by decide) (by decide) (fun _ => ?_) (fun hc => absurd (show (255 : Int32) < (own_ch (own_b0 c2) (own_b1 c2)) from by rw [own_chb ok2]; exact hbig) (by first | exact hc | exact not_not_intro hc))
    show own_Go p e below _ T30 (mkF m 54 #[.val (.ref a1), .val (.int (0 : Int32)), .val (.int (3 : Int32)), .val (.ref b1), .val (.int (2 : Int32)), .val (.ref r26)] [])
    refine own_by (fun t_ k_ => XS.aload X30.here hx rfl (hb hby d4_54) rfl rfl k_) ?_
    show own_Go p e below _ T30 (mkF m 56 #[.val (.ref a1), .val (.int (0 : Int32)), .val (.int (3 : Int32)), .val (.ref b1), .val (.int (2 : Int32)), .val (.ref r26)] [(.ref r26)])
    refine own_retR X30 hx hlk Bd.returns rfl rfl rfl (hb hby d4_56) e30 (by decide) (by decide) ?_
    exact ⟨r26, _, 6, rfl, N30, K26, A26, rfl, Or.inr rfl⟩
theorem ef_6_3_3 (m : MethodId) (a1 : Addr) : entryFrame m #[(.ref a1), (.int (3 : Int32))] 2 = mkF m 0 #[.val (.ref a1), .val (.int (3 : Int32))] [] := by first | (simp [entryFrame, mkF, argsToLocals, Value.category]; done) | rfl
set_option maxRecDepth 65536 in
set_option maxHeartbeats 40000000 in
theorem rm6_3_3 (l : Launch) (Z : State) (a0 : Array Value) (hw : ∀ d ∈ tables_1, d.before a0 Z = true) (ws : List Jvm.Cond) (a1 : Addr) (vs : List Value) (h0 : Heap) (n0 : Nat) (Z0 : n0 ≤ h0.size) (V_a1 : own_Arr Z h0 a1 .byte vs) (hl : vs.length = 3) :
    MetFree l (⟨"java/lang/StringUTF16", "coderFromArrayLen", "([BI)B"⟩ : MethodName) (head1 (Jvm.Cond.code (⟨"java/lang/StringUTF16", "coderFromArrayLen", "([BI)B"⟩ : MethodName) jdk_52_method_15_code 2 (some .byte) :: ws) ({ frames := 0, cells := 0, slots := 0, locals := 0 } : Room)) (fun a U => a = #[(.ref a1), (.int (3 : Int32))] ∧ Z.Warmed39 U.vm ∧ U.heap = h0) (fun _ _ _ _ _ => True) (fun _ U o U' => ∃ v L, o = .returned v ∧ QI 0 h0 n0 v U'.heap L ∧ FrameEnd U o U' L ({ frames := 0, cells := 0, slots := 0, locals := 0 } : Room).cells ({ frames := 0, cells := 0, slots := 0, locals := 0 } : Room).slots) := by
  refine MetFree.of_bodySF (plainFor_of_name pn_4) hisR ?_
  intro p e s m args below meth c s₁ Bd hml0 hP hK
  obtain ⟨rfl, hZ, hh⟩ := hP
  have hx := Bd.exec
  have hby := Bd.bytes
  have hml : c.maxLocals = 2 := hml0
  have hown : s.vm.findClass "java/lang/StringUTF16" = some m.cls := findClass_of_methodNamed Bd.named
  have hnm := (name_of_methodNamed Bd.named Bd.method).1
  have hlk : meth.locks = false := BodyLoose.notSynchronized Bd
  have X0 : Stand p l e ({ frames := 0, cells := 0, slots := 0, locals := 0 } : Room) s m #[(.ref a1), (.int (3 : Int32))] below meth c s₁ [] 0 0 := Stand.of_body Bd
  have e0 : s₁.heap = h0 := by rw [← hh, Bd.state]; rfl
  have N0 := Fr.nil n0
  refine own_start (Q := QI 0 h0 n0) (ef_6_3_3 m a1) ?_
  show own_Go p e below _ s₁ (mkF m 0 #[.val (.ref a1), .val (.int (3 : Int32))] [])
  refine own_by (fun t_ k_ => XS.iloadN X0.here hx rfl (hb hby d6_0) rfl k_) ?_
  show own_Go p e below _ s₁ (mkF m 1 #[.val (.ref a1), .val (.int (3 : Int32))] [(.int (3 : Int32))])
  refine own_by (fun t_ k_ => XS.aloadN X0.here hx rfl (hb hby d6_1) rfl rfl k_) ?_
  show own_Go p e below _ s₁ (mkF m 2 #[.val (.ref a1), .val (.int (3 : Int32))] [(.ref a1), (.int (3 : Int32))])
  refine own_alenK X0 hx hZ e0 V_a1 3 hl rfl (hb hby d6_2) ?_
  show own_Go p e below _ s₁ (mkF m 3 #[.val (.ref a1), .val (.int (3 : Int32))] [(.int (3 : Int32)), (.int (3 : Int32))])
  refine own_by (fun t_ k_ => XS.isub X0.here hx rfl (hb hby d6_3) rfl k_) ?_
  show own_Go p e below _ s₁ (mkF m 4 #[.val (.ref a1), .val (.int (3 : Int32))] [(.int (0 : Int32))])
  refine own_by (fun t_ k_ => XS.bipush X0.here hx rfl (hb hby d6_4) k_) ?_
  show own_Go p e below _ s₁ (mkF m 6 #[.val (.ref a1), .val (.int (3 : Int32))] [(.int (31 : Int32)), (.int (0 : Int32))])
  refine own_by (fun t_ k_ => XT.iushr X0.here hx rfl (hb hby d6_6) rfl k_) ?_
  show own_Go p e below _ s₁ (mkF m 7 #[.val (.ref a1), .val (.int (3 : Int32))] [(.int (XT.ushr (0 : Int32) (31 : Int32)))])
  refine own_by (fun t_ k_ => XT.i2b X0.here hx rfl (hb hby d6_7) rfl k_) ?_
  show own_Go p e below _ s₁ (mkF m 8 #[.val (.ref a1), .val (.int (3 : Int32))] [(.int (XT.ushr (0 : Int32) (31 : Int32)).toInt8.toInt32)])
  refine own_ret X0 hx hlk Bd.returns (t := .byte) (Or.inl ⟨rfl, by simp, _, rfl⟩) (by first | rfl | decide) (hb hby d6_8) e0 (by decide) (by decide) ?_
  exact ⟨congrArg some (congrArg Value.int (by decide)), N0, rfl⟩
theorem ef_6_3_6 (m : MethodId) (a1 : Addr) : entryFrame m #[(.ref a1), (.int (3 : Int32))] 2 = mkF m 0 #[.val (.ref a1), .val (.int (3 : Int32))] [] := by first | (simp [entryFrame, mkF, argsToLocals, Value.category]; done) | rfl
set_option maxRecDepth 65536 in
set_option maxHeartbeats 40000000 in
theorem rm6_3_6 (l : Launch) (Z : State) (a0 : Array Value) (hw : ∀ d ∈ tables_1, d.before a0 Z = true) (ws : List Jvm.Cond) (a1 : Addr) (vs : List Value) (h0 : Heap) (n0 : Nat) (Z0 : n0 ≤ h0.size) (V_a1 : own_Arr Z h0 a1 .byte vs) (hl : vs.length = 6) :
    MetFree l (⟨"java/lang/StringUTF16", "coderFromArrayLen", "([BI)B"⟩ : MethodName) (head1 (Jvm.Cond.code (⟨"java/lang/StringUTF16", "coderFromArrayLen", "([BI)B"⟩ : MethodName) jdk_52_method_15_code 2 (some .byte) :: ws) ({ frames := 0, cells := 0, slots := 0, locals := 0 } : Room)) (fun a U => a = #[(.ref a1), (.int (3 : Int32))] ∧ Z.Warmed39 U.vm ∧ U.heap = h0) (fun _ _ _ _ _ => True) (fun _ U o U' => ∃ v L, o = .returned v ∧ QI 1 h0 n0 v U'.heap L ∧ FrameEnd U o U' L ({ frames := 0, cells := 0, slots := 0, locals := 0 } : Room).cells ({ frames := 0, cells := 0, slots := 0, locals := 0 } : Room).slots) := by
  refine MetFree.of_bodySF (plainFor_of_name pn_4) hisR ?_
  intro p e s m args below meth c s₁ Bd hml0 hP hK
  obtain ⟨rfl, hZ, hh⟩ := hP
  have hx := Bd.exec
  have hby := Bd.bytes
  have hml : c.maxLocals = 2 := hml0
  have hown : s.vm.findClass "java/lang/StringUTF16" = some m.cls := findClass_of_methodNamed Bd.named
  have hnm := (name_of_methodNamed Bd.named Bd.method).1
  have hlk : meth.locks = false := BodyLoose.notSynchronized Bd
  have X0 : Stand p l e ({ frames := 0, cells := 0, slots := 0, locals := 0 } : Room) s m #[(.ref a1), (.int (3 : Int32))] below meth c s₁ [] 0 0 := Stand.of_body Bd
  have e0 : s₁.heap = h0 := by rw [← hh, Bd.state]; rfl
  have N0 := Fr.nil n0
  refine own_start (Q := QI 1 h0 n0) (ef_6_3_6 m a1) ?_
  show own_Go p e below _ s₁ (mkF m 0 #[.val (.ref a1), .val (.int (3 : Int32))] [])
  refine own_by (fun t_ k_ => XS.iloadN X0.here hx rfl (hb hby d6_0) rfl k_) ?_
  show own_Go p e below _ s₁ (mkF m 1 #[.val (.ref a1), .val (.int (3 : Int32))] [(.int (3 : Int32))])
  refine own_by (fun t_ k_ => XS.aloadN X0.here hx rfl (hb hby d6_1) rfl rfl k_) ?_
  show own_Go p e below _ s₁ (mkF m 2 #[.val (.ref a1), .val (.int (3 : Int32))] [(.ref a1), (.int (3 : Int32))])
  refine own_alenK X0 hx hZ e0 V_a1 6 hl rfl (hb hby d6_2) ?_
  show own_Go p e below _ s₁ (mkF m 3 #[.val (.ref a1), .val (.int (3 : Int32))] [(.int (6 : Int32)), (.int (3 : Int32))])
  refine own_by (fun t_ k_ => XS.isub X0.here hx rfl (hb hby d6_3) rfl k_) ?_
  show own_Go p e below _ s₁ (mkF m 4 #[.val (.ref a1), .val (.int (3 : Int32))] [(.int (-3 : Int32))])
  refine own_by (fun t_ k_ => XS.bipush X0.here hx rfl (hb hby d6_4) k_) ?_
  show own_Go p e below _ s₁ (mkF m 6 #[.val (.ref a1), .val (.int (3 : Int32))] [(.int (31 : Int32)), (.int (-3 : Int32))])
  refine own_by (fun t_ k_ => XT.iushr X0.here hx rfl (hb hby d6_6) rfl k_) ?_
  show own_Go p e below _ s₁ (mkF m 7 #[.val (.ref a1), .val (.int (3 : Int32))] [(.int (XT.ushr (-3 : Int32) (31 : Int32)))])
  refine own_by (fun t_ k_ => XT.i2b X0.here hx rfl (hb hby d6_7) rfl k_) ?_
  show own_Go p e below _ s₁ (mkF m 8 #[.val (.ref a1), .val (.int (3 : Int32))] [(.int (XT.ushr (-3 : Int32) (31 : Int32)).toInt8.toInt32)])
  refine own_ret X0 hx hlk Bd.returns (t := .byte) (Or.inl ⟨rfl, by simp, _, rfl⟩) (by first | rfl | decide) (hb hby d6_8) e0 (by decide) (by decide) ?_
  exact ⟨congrArg some (congrArg Value.int (by decide)), N0, rfl⟩
theorem ef_2_3 (m : MethodId) (a1 : Addr) (a2 : Addr) : entryFrame m #[(.ref a1), (.ref a2), (.int (0 : Int32)), (.int (3 : Int32)), .null] 6 = mkF m 0 #[.val (.ref a1), .val (.ref a2), .val (.int (0 : Int32)), .val (.int (3 : Int32)), .val .null, .unset] [] := by first | (simp [entryFrame, mkF, argsToLocals, Value.category]; done) | rfl
set_option maxRecDepth 65536 in
set_option maxHeartbeats 40000000 in
theorem rm2_3 (l : Launch) (Z : State) (a0 : Array Value) (hw : ∀ d ∈ tables_1, d.before a0 Z = true) (ws : List Jvm.Cond) (a1 : Addr) (a2 : Addr) (c0 : Int32) (c1 : Int32) (c2 : Int32) (cs : Int32) (h0 : Heap) (n0 : Nat) (Z0 : n0 ≤ h0.size) (E_a1 : Exa Z h0 a1 "java/lang/String") (F_value : Fld Z h0 a1 "java/lang/String" "value" "[B" .null) (F_coder : Fld Z h0 a1 "java/lang/String" "coder" "B" (.int (0 : Int32))) (g_a1 : n0 ≤ a1) (S_cs : Sta Z h0 "java/lang/String" "COMPACT_STRINGS" "Z" (.int cs)) (hcs : ¬ cs = 0) (S_ad : Sta Z h0 "java/lang/StringUTF16" "$assertionsDisabled" "Z" (.int (1 : Int32))) (S_hb : Sta Z h0 "java/lang/StringUTF16" "HI_BYTE_SHIFT" "I" (.int (0 : Int32))) (S_lb : Sta Z h0 "java/lang/StringUTF16" "LO_BYTE_SHIFT" "I" (.int (8 : Int32))) (V_a2 : own_Arr Z h0 a2 .char [(.int c0), (.int c1), (.int c2)]) (ok0 : own_Ok c0) (ok1 : own_Ok c1) (ok2 : own_Ok c2) :
    MetFree l (⟨"java/lang/String", "<init>", "([CIILjava/lang/Void;)V"⟩ : MethodName) (head1 (Jvm.Cond.code (⟨"java/lang/String", "<init>", "([CIILjava/lang/Void;)V"⟩ : MethodName) jdk_42_method_149_code 6 none :: ws) ({ frames := 4, cells := 2, slots := 9, locals := 80 } : Room)) (fun a U => a = #[(.ref a1), (.ref a2), (.int (0 : Int32)), (.int (3 : Int32)), .null] ∧ Z.Warmed39 U.vm ∧ U.heap = h0) (fun _ _ _ _ _ => True) (fun _ U o U' => ∃ v L, o = .returned v ∧ QS Z a1 3 h0 n0 v U'.heap L ∧ FrameEnd U o U' L ({ frames := 4, cells := 2, slots := 9, locals := 80 } : Room).cells ({ frames := 4, cells := 2, slots := 9, locals := 80 } : Room).slots) := by
  refine MetFree.of_bodySF (plainFor_of_name pn_1) hisR ?_
  intro p e s m args below meth c s₁ Bd hml0 hP hK
  obtain ⟨rfl, hZ, hh⟩ := hP
  have hx := Bd.exec
  have hby := Bd.bytes
  have hml : c.maxLocals = 6 := hml0
  have hown : s.vm.findClass "java/lang/String" = some m.cls := findClass_of_methodNamed Bd.named
  have hnm := (name_of_methodNamed Bd.named Bd.method).1
  have hlk : meth.locks = false := BodyLoose.notSynchronized Bd
  have X0 : Stand p l e ({ frames := 4, cells := 2, slots := 9, locals := 80 } : Room) s m #[(.ref a1), (.ref a2), (.int (0 : Int32)), (.int (3 : Int32)), .null] below meth c s₁ [] 0 0 := Stand.of_body Bd
  have e0 : s₁.heap = h0 := by rw [← hh, Bd.state]; rfl
  have N0 := Fr.nil n0
  refine own_start (Q := QS Z a1 3 h0 n0) (ef_2_3 m a1 a2) ?_
  have K0 := Keep.refl h0 [a1]
  show own_Go p e below _ s₁ (mkF m 0 #[.val (.ref a1), .val (.ref a2), .val (.int (0 : Int32)), .val (.int (3 : Int32)), .val .null, .unset] [])
  refine own_by (fun t_ k_ => XS.aloadN X0.here hx rfl (hb hby d2_0) rfl rfl k_) ?_
  show own_Go p e below _ s₁ (mkF m 1 #[.val (.ref a1), .val (.ref a2), .val (.int (0 : Int32)), .val (.int (3 : Int32)), .val .null, .unset] [(.ref a1)])
  refine own_initO X0 hx hZ hown (own_w hw 13 rfl) (own_w hw 14 rfl) (own_w hw 15 rfl) e0 (by rw [hml]; rfl) (hb hby d2_1) (by decide) (W := 0) (Nat.le_of_eq rfl) (by decide) ?_
  intro T1 X1 e1
  show own_Go p e below _ T1 (mkF m 4 #[.val (.ref a1), .val (.ref a2), .val (.int (0 : Int32)), .val (.int (3 : Int32)), .val .null, .unset] [])
  refine own_by (fun t_ k_ => XS.iloadN X1.here hx rfl (hb hby d2_4) rfl k_) ?_
  show own_Go p e below _ T1 (mkF m 5 #[.val (.ref a1), .val (.ref a2), .val (.int (0 : Int32)), .val (.int (3 : Int32)), .val .null, .unset] [(.int (3 : Int32))])
  refine own_if X1 hx 27 (hb hby d2_5) (by decide) (by decide) (fun _ => ?_) (fun hc => absurd (show ¬ (3 : Int32) = (0 : Int32) from by decide) (by first | exact hc | exact not_not_intro hc))
  show own_Go p e below _ T1 (mkF m 27 #[.val (.ref a1), .val (.ref a2), .val (.int (0 : Int32)), .val (.int (3 : Int32)), .val .null, .unset] [])
  refine own_getS X1 hx hZ hown (own_w hw 16 rfl) Via.refl e1 S_cs (hb hby d2_27) ?_
  intro T2 X2 e2
  show own_Go p e below _ T2 (mkF m 30 #[.val (.ref a1), .val (.ref a2), .val (.int (0 : Int32)), .val (.int (3 : Int32)), .val .null, .unset] [(.int cs)])
  refine own_if X2 hx 58 (hb hby d2_30) (by decide) (by decide) (fun hc => absurd (show ¬ cs = (0 : Int32) from hcs) (by first | exact hc | exact not_not_intro hc)) (fun _ => ?_)
  show own_Go p e below _ T2 (mkF m 33 #[.val (.ref a1), .val (.ref a2), .val (.int (0 : Int32)), .val (.int (3 : Int32)), .val .null, .unset] [])
  refine own_by (fun t_ k_ => XS.aloadN X2.here hx rfl (hb hby d2_33) rfl rfl k_) ?_
  show own_Go p e below _ T2 (mkF m 34 #[.val (.ref a1), .val (.ref a2), .val (.int (0 : Int32)), .val (.int (3 : Int32)), .val .null, .unset] [(.ref a2)])
  refine own_by (fun t_ k_ => XS.iloadN X2.here hx rfl (hb hby d2_34) rfl k_) ?_
  show own_Go p e below _ T2 (mkF m 35 #[.val (.ref a1), .val (.ref a2), .val (.int (0 : Int32)), .val (.int (3 : Int32)), .val .null, .unset] [(.int (0 : Int32)), (.ref a2)])
  refine own_by (fun t_ k_ => XS.iloadN X2.here hx rfl (hb hby d2_35) rfl k_) ?_
  show own_Go p e below _ T2 (mkF m 36 #[.val (.ref a1), .val (.ref a2), .val (.int (0 : Int32)), .val (.int (3 : Int32)), .val .null, .unset] [(.int (3 : Int32)), (.int (0 : Int32)), (.ref a2)])
  refine own_callS (W := 0) X2 hx hZ (y := (⟨"java/lang/StringUTF16", "compress", "([CII)[B"⟩ : MethodName)) hown (own_w hw 17 rfl) (own_w hw 18 rfl) (own_w hw 19 rfl) (own_w hw 20 rfl) (by decide) (by rw [hml]; rfl) (argsL := [(.ref a2), (.int (0 : Int32)), (.int (3 : Int32))]) pd_3 rfl (rm4_3 l Z a0 hw [] a2 c0 c1 c2 h0 n0 Z0 S_ad S_hb S_lb V_a2 ok0 ok1 ok2) (by decide) (by decide) (Nat.le_of_eq rfl) (by decide) (by decide) (rest := []) e2 rfl (hb hby d2_36) ?_
  intro v3 T3 L3 X3 hQ3
  obtain ⟨r3, vs3, n3, rfl, N3q, K3q, A3, hl3, hn3⟩ := hQ3
  have N3 := Fr.app N0 N3q
  have sz3 : n0 ≤ T3.heap.size := Nat.le_trans Z0 K3q.1
  have K3 : Keep h0 T3.heap [a1] := K0.trans K3q (all0)
  rcases hn3 with rfl | rfl
  · have hll : vs3.length = 3 := hl3
    have E_a1_4 : Exa Z T3.heap a1 "java/lang/String" := (Exa.keep E_a1 K3q)
    have nea : a1 ≠ r3 := own_exa_arr E_a1_4 (own_w hw 3 rfl) A3
    show own_Go p e below _ T3 (mkF m 39 #[.val (.ref a1), .val (.ref a2), .val (.int (0 : Int32)), .val (.int (3 : Int32)), .val .null, .unset] [(.ref r3)])
    refine own_by (fun t_ k_ => XS.astore X3.here hx rfl (hb hby d2_39) rfl rfl (l' := #[.val (.ref a1), .val (.ref a2), .val (.int (0 : Int32)), .val (.int (3 : Int32)), .val .null, .val (.ref r3)]) rfl k_) ?_
    show own_Go p e below _ T3 (mkF m 41 #[.val (.ref a1), .val (.ref a2), .val (.int (0 : Int32)), .val (.int (3 : Int32)), .val .null, .val (.ref r3)] [])
    refine own_by (fun t_ k_ => XS.aloadN X3.here hx rfl (hb hby d2_41) rfl rfl k_) ?_
    show own_Go p e below _ T3 (mkF m 42 #[.val (.ref a1), .val (.ref a2), .val (.int (0 : Int32)), .val (.int (3 : Int32)), .val .null, .val (.ref r3)] [(.ref a1)])
    refine own_by (fun t_ k_ => XS.aload X3.here hx rfl (hb hby d2_42) rfl rfl k_) ?_
    show own_Go p e below _ T3 (mkF m 44 #[.val (.ref a1), .val (.ref a2), .val (.int (0 : Int32)), .val (.int (3 : Int32)), .val .null, .val (.ref r3)] [(.ref r3), (.ref a1)])
    refine own_by (fun t_ k_ => XS.iloadN X3.here hx rfl (hb hby d2_44) rfl k_) ?_
    show own_Go p e below _ T3 (mkF m 45 #[.val (.ref a1), .val (.ref a2), .val (.int (0 : Int32)), .val (.int (3 : Int32)), .val .null, .val (.ref r3)] [(.int (3 : Int32)), (.ref r3), (.ref a1)])
    refine own_callS (W := 1) X3 hx hZ (y := (⟨"java/lang/StringUTF16", "coderFromArrayLen", "([BI)B"⟩ : MethodName)) hown (own_w hw 25 rfl) (own_w hw 26 rfl) (own_w hw 19 rfl) (own_w hw 27 rfl) (by decide) (by rw [hml]; rfl) (argsL := [(.ref r3), (.int (3 : Int32))]) pd_5 rfl (rm6_3_3 l Z a0 hw [] r3 vs3 T3.heap n0 sz3 A3 hll) (by decide) (by decide) (Nat.le_of_eq rfl) (by decide) (by decide) (rest := [(.ref a1)]) rfl rfl (hb hby d2_45) ?_
    intro v5 T5 L5 X5 hQ5
    obtain ⟨rfl, N5q, e5⟩ := hQ5
    have N5 := Fr.app N3 N5q
    show own_Go p e below _ T5 (mkF m 48 #[.val (.ref a1), .val (.ref a2), .val (.int (0 : Int32)), .val (.int (3 : Int32)), .val .null, .val (.ref r3)] [(.int (0 : Int32)), (.ref a1)])
    have F_coder_7 : Fld Z T3.heap a1 "java/lang/String" "coder" "B" (.int (0 : Int32)) := (Fld.keep F_coder K3q nin0)
    refine own_putF X5 hx hZ hown (own_w hw 28 rfl) Via.refl e5 F_coder_7 E_a1_4 (Or.inr ⟨(own_w hw 29 rfl), rfl, hnm⟩) (own_w hw 3 rfl) (ty := .byte) (by decide) rfl rfl (hb hby d2_48) ?_
    intro T6 h6 X6 e6 W6
    have F6 := Fld.same W6 F_coder_7
    have N6 := Fr.snoc X6 N5 g_a1
    have sz6 : n0 ≤ h6.size := Nat.le_trans sz3 (Keep.of_wr W6).1
    have K6 : Keep h0 h6 [a1] := K3.wr W6 (Or.inl (List.mem_cons_self ..))
    show own_Go p e below _ T6 (mkF m 51 #[.val (.ref a1), .val (.ref a2), .val (.int (0 : Int32)), .val (.int (3 : Int32)), .val .null, .val (.ref r3)] [])
    refine own_by (fun t_ k_ => XS.aloadN X6.here hx rfl (hb hby d2_51) rfl rfl k_) ?_
    show own_Go p e below _ T6 (mkF m 52 #[.val (.ref a1), .val (.ref a2), .val (.int (0 : Int32)), .val (.int (3 : Int32)), .val .null, .val (.ref r3)] [(.ref a1)])
    refine own_by (fun t_ k_ => XS.aload X6.here hx rfl (hb hby d2_52) rfl rfl k_) ?_
    show own_Go p e below _ T6 (mkF m 54 #[.val (.ref a1), .val (.ref a2), .val (.int (0 : Int32)), .val (.int (3 : Int32)), .val .null, .val (.ref r3)] [(.ref r3), (.ref a1)])
    have F_value_9 : Fld Z h6 a1 "java/lang/String" "value" "[B" .null := (Fld.other W6 (Fld.keep F_value K3q nin0) (Or.inr (slot_ne (Or.inr (own_w hw 31 rfl)) (Or.inr (own_w hw 29 rfl)) (by decide) (t := (.array .byte)) (t' := .byte) (by decide) (by decide))))
    have E_a1_10 : Exa Z h6 a1 "java/lang/String" := (Exa.wr W6 E_a1_4)
    refine own_putF X6 hx hZ hown (own_w hw 30 rfl) Via.refl e6 F_value_9 E_a1_10 (Or.inr ⟨(own_w hw 31 rfl), rfl, hnm⟩) (own_w hw 3 rfl) (ty := (.array .byte)) (by decide) rfl rfl (hb hby d2_54) ?_
    intro T8 h8 X8 e8 W8
    have F8 := Fld.same W8 F_value_9
    have N8 := Fr.snoc X8 N6 g_a1
    have sz8 : n0 ≤ h8.size := Nat.le_trans sz6 (Keep.of_wr W8).1
    have K8 : Keep h0 h8 [a1] := K6.wr W8 (Or.inl (List.mem_cons_self ..))
    show own_Go p e below _ T8 (mkF m 57 #[.val (.ref a1), .val (.ref a2), .val (.int (0 : Int32)), .val (.int (3 : Int32)), .val .null, .val (.ref r3)] [])
    refine own_retV X8 hx hlk Bd.returns (hb hby d2_57) e8 (by decide) (by decide) ?_
    have E_a1_11 : Exa Z h8 a1 "java/lang/String" := (Exa.wr W8 E_a1_10)
    have F6_12 : Fld Z h8 a1 "java/lang/String" "coder" "B" (.int (0 : Int32)) := (Fld.other W8 F6 (Or.inr (slot_ne (Or.inr (own_w hw 29 rfl)) (Or.inr (own_w hw 31 rfl)) (by decide) (t := .byte) (t' := (.array .byte)) (by decide) (by decide))))
    have A3_13 : own_Arr Z h8 r3 .byte vs3 := (own_Arr.other (own_Arr.other A3 W6 (Ne.symm nea)) W8 (Ne.symm nea))
    exact ⟨rfl, N8, K8, _, _, _, 3, E_a1_11, F6_12, F8, A3_13, hll, Or.inl rfl, by decide⟩
  · have hll : vs3.length = 6 := hl3
    have E_a1_14 : Exa Z T3.heap a1 "java/lang/String" := (Exa.keep E_a1 K3q)
    have nea : a1 ≠ r3 := own_exa_arr E_a1_14 (own_w hw 3 rfl) A3
    show own_Go p e below _ T3 (mkF m 39 #[.val (.ref a1), .val (.ref a2), .val (.int (0 : Int32)), .val (.int (3 : Int32)), .val .null, .unset] [(.ref r3)])
    refine own_by (fun t_ k_ => XS.astore X3.here hx rfl (hb hby d2_39) rfl rfl (l' := #[.val (.ref a1), .val (.ref a2), .val (.int (0 : Int32)), .val (.int (3 : Int32)), .val .null, .val (.ref r3)]) rfl k_) ?_
    show own_Go p e below _ T3 (mkF m 41 #[.val (.ref a1), .val (.ref a2), .val (.int (0 : Int32)), .val (.int (3 : Int32)), .val .null, .val (.ref r3)] [])
    refine own_by (fun t_ k_ => XS.aloadN X3.here hx rfl (hb hby d2_41) rfl rfl k_) ?_
    show own_Go p e below _ T3 (mkF m 42 #[.val (.ref a1), .val (.ref a2), .val (.int (0 : Int32)), .val (.int (3 : Int32)), .val .null, .val (.ref r3)] [(.ref a1)])
    refine own_by (fun t_ k_ => XS.aload X3.here hx rfl (hb hby d2_42) rfl rfl k_) ?_
    show own_Go p e below _ T3 (mkF m 44 #[.val (.ref a1), .val (.ref a2), .val (.int (0 : Int32)), .val (.int (3 : Int32)), .val .null, .val (.ref r3)] [(.ref r3), (.ref a1)])
    refine own_by (fun t_ k_ => XS.iloadN X3.here hx rfl (hb hby d2_44) rfl k_) ?_
    show own_Go p e below _ T3 (mkF m 45 #[.val (.ref a1), .val (.ref a2), .val (.int (0 : Int32)), .val (.int (3 : Int32)), .val .null, .val (.ref r3)] [(.int (3 : Int32)), (.ref r3), (.ref a1)])
    refine own_callS (W := 1) X3 hx hZ (y := (⟨"java/lang/StringUTF16", "coderFromArrayLen", "([BI)B"⟩ : MethodName)) hown (own_w hw 25 rfl) (own_w hw 26 rfl) (own_w hw 19 rfl) (own_w hw 27 rfl) (by decide) (by rw [hml]; rfl) (argsL := [(.ref r3), (.int (3 : Int32))]) pd_5 rfl (rm6_3_6 l Z a0 hw [] r3 vs3 T3.heap n0 sz3 A3 hll) (by decide) (by decide) (Nat.le_of_eq rfl) (by decide) (by decide) (rest := [(.ref a1)]) rfl rfl (hb hby d2_45) ?_
    intro v15 T15 L15 X15 hQ15
    obtain ⟨rfl, N15q, e15⟩ := hQ15
    have N15 := Fr.app N3 N15q
    show own_Go p e below _ T15 (mkF m 48 #[.val (.ref a1), .val (.ref a2), .val (.int (0 : Int32)), .val (.int (3 : Int32)), .val .null, .val (.ref r3)] [(.int (1 : Int32)), (.ref a1)])
    have F_coder_17 : Fld Z T3.heap a1 "java/lang/String" "coder" "B" (.int (0 : Int32)) := (Fld.keep F_coder K3q nin0)
    refine own_putF X15 hx hZ hown (own_w hw 28 rfl) Via.refl e15 F_coder_17 E_a1_14 (Or.inr ⟨(own_w hw 29 rfl), rfl, hnm⟩) (own_w hw 3 rfl) (ty := .byte) (by decide) rfl rfl (hb hby d2_48) ?_
    intro T16 h16 X16 e16 W16
    have F16 := Fld.same W16 F_coder_17
    have N16 := Fr.snoc X16 N15 g_a1
    have sz16 : n0 ≤ h16.size := Nat.le_trans sz3 (Keep.of_wr W16).1
    have K16 : Keep h0 h16 [a1] := K3.wr W16 (Or.inl (List.mem_cons_self ..))
    show own_Go p e below _ T16 (mkF m 51 #[.val (.ref a1), .val (.ref a2), .val (.int (0 : Int32)), .val (.int (3 : Int32)), .val .null, .val (.ref r3)] [])
    refine own_by (fun t_ k_ => XS.aloadN X16.here hx rfl (hb hby d2_51) rfl rfl k_) ?_
    show own_Go p e below _ T16 (mkF m 52 #[.val (.ref a1), .val (.ref a2), .val (.int (0 : Int32)), .val (.int (3 : Int32)), .val .null, .val (.ref r3)] [(.ref a1)])
    refine own_by (fun t_ k_ => XS.aload X16.here hx rfl (hb hby d2_52) rfl rfl k_) ?_
    show own_Go p e below _ T16 (mkF m 54 #[.val (.ref a1), .val (.ref a2), .val (.int (0 : Int32)), .val (.int (3 : Int32)), .val .null, .val (.ref r3)] [(.ref r3), (.ref a1)])
    have F_value_19 : Fld Z h16 a1 "java/lang/String" "value" "[B" .null := (Fld.other W16 (Fld.keep F_value K3q nin0) (Or.inr (slot_ne (Or.inr (own_w hw 31 rfl)) (Or.inr (own_w hw 29 rfl)) (by decide) (t := (.array .byte)) (t' := .byte) (by decide) (by decide))))
    have E_a1_20 : Exa Z h16 a1 "java/lang/String" := (Exa.wr W16 E_a1_14)
    refine own_putF X16 hx hZ hown (own_w hw 30 rfl) Via.refl e16 F_value_19 E_a1_20 (Or.inr ⟨(own_w hw 31 rfl), rfl, hnm⟩) (own_w hw 3 rfl) (ty := (.array .byte)) (by decide) rfl rfl (hb hby d2_54) ?_
    intro T18 h18 X18 e18 W18
    have F18 := Fld.same W18 F_value_19
    have N18 := Fr.snoc X18 N16 g_a1
    have sz18 : n0 ≤ h18.size := Nat.le_trans sz16 (Keep.of_wr W18).1
    have K18 : Keep h0 h18 [a1] := K16.wr W18 (Or.inl (List.mem_cons_self ..))
    show own_Go p e below _ T18 (mkF m 57 #[.val (.ref a1), .val (.ref a2), .val (.int (0 : Int32)), .val (.int (3 : Int32)), .val .null, .val (.ref r3)] [])
    refine own_retV X18 hx hlk Bd.returns (hb hby d2_57) e18 (by decide) (by decide) ?_
    have E_a1_21 : Exa Z h18 a1 "java/lang/String" := (Exa.wr W18 E_a1_20)
    have F16_22 : Fld Z h18 a1 "java/lang/String" "coder" "B" (.int (1 : Int32)) := (Fld.other W18 F16 (Or.inr (slot_ne (Or.inr (own_w hw 29 rfl)) (Or.inr (own_w hw 31 rfl)) (by decide) (t := .byte) (t' := (.array .byte)) (by decide) (by decide))))
    have A3_23 : own_Arr Z h18 r3 .byte vs3 := (own_Arr.other (own_Arr.other A3 W16 (Ne.symm nea)) W18 (Ne.symm nea))
    exact ⟨rfl, N18, K18, _, _, _, 6, E_a1_21, F16_22, F18, A3_23, hll, Or.inr rfl, by decide⟩
theorem ef_1_3 (m : MethodId) (a1 : Addr) (a2 : Addr) : entryFrame m #[(.ref a1), (.ref a2)] 2 = mkF m 0 #[.val (.ref a1), .val (.ref a2)] [] := by first | (simp [entryFrame, mkF, argsToLocals, Value.category]; done) | rfl
set_option maxRecDepth 65536 in
set_option maxHeartbeats 40000000 in
theorem rm1_3 (l : Launch) (Z : State) (a0 : Array Value) (hw : ∀ d ∈ tables_1, d.before a0 Z = true) (ws : List Jvm.Cond) (a1 : Addr) (a2 : Addr) (c0 : Int32) (c1 : Int32) (c2 : Int32) (cs : Int32) (h0 : Heap) (n0 : Nat) (Z0 : n0 ≤ h0.size) (E_a1 : Exa Z h0 a1 "java/lang/String") (F_value : Fld Z h0 a1 "java/lang/String" "value" "[B" .null) (F_coder : Fld Z h0 a1 "java/lang/String" "coder" "B" (.int (0 : Int32))) (g_a1 : n0 ≤ a1) (S_cs : Sta Z h0 "java/lang/String" "COMPACT_STRINGS" "Z" (.int cs)) (hcs : ¬ cs = 0) (S_ad : Sta Z h0 "java/lang/StringUTF16" "$assertionsDisabled" "Z" (.int (1 : Int32))) (S_hb : Sta Z h0 "java/lang/StringUTF16" "HI_BYTE_SHIFT" "I" (.int (0 : Int32))) (S_lb : Sta Z h0 "java/lang/StringUTF16" "LO_BYTE_SHIFT" "I" (.int (8 : Int32))) (V_a2 : own_Arr Z h0 a2 .char [(.int c0), (.int c1), (.int c2)]) (ok0 : own_Ok c0) (ok1 : own_Ok c1) (ok2 : own_Ok c2) :
    MetFree l (⟨"java/lang/String", "<init>", "([C)V"⟩ : MethodName) (head1 (Jvm.Cond.code (⟨"java/lang/String", "<init>", "([C)V"⟩ : MethodName) jdk_42_method_3_code 2 none :: ws) ({ frames := 5, cells := 2, slots := 9, locals := 110 } : Room)) (fun a U => a = #[(.ref a1), (.ref a2)] ∧ Z.Warmed39 U.vm ∧ U.heap = h0) (fun _ _ _ _ _ => True) (fun _ U o U' => ∃ v L, o = .returned v ∧ QS Z a1 3 h0 n0 v U'.heap L ∧ FrameEnd U o U' L ({ frames := 5, cells := 2, slots := 9, locals := 110 } : Room).cells ({ frames := 5, cells := 2, slots := 9, locals := 110 } : Room).slots) := by
  refine MetFree.of_bodySF (plainFor_of_name pn_1) hisR ?_
  intro p e s m args below meth c s₁ Bd hml0 hP hK
  obtain ⟨rfl, hZ, hh⟩ := hP
  have hx := Bd.exec
  have hby := Bd.bytes
  have hml : c.maxLocals = 2 := hml0
  have hown : s.vm.findClass "java/lang/String" = some m.cls := findClass_of_methodNamed Bd.named
  have hnm := (name_of_methodNamed Bd.named Bd.method).1
  have hlk : meth.locks = false := BodyLoose.notSynchronized Bd
  have X0 : Stand p l e ({ frames := 5, cells := 2, slots := 9, locals := 110 } : Room) s m #[(.ref a1), (.ref a2)] below meth c s₁ [] 0 0 := Stand.of_body Bd
  have e0 : s₁.heap = h0 := by rw [← hh, Bd.state]; rfl
  have N0 := Fr.nil n0
  refine own_start (Q := QS Z a1 3 h0 n0) (ef_1_3 m a1 a2) ?_
  have K0 := Keep.refl h0 [a1]
  show own_Go p e below _ s₁ (mkF m 0 #[.val (.ref a1), .val (.ref a2)] [])
  refine own_by (fun t_ k_ => XS.aloadN X0.here hx rfl (hb hby d1_0) rfl rfl k_) ?_
  show own_Go p e below _ s₁ (mkF m 1 #[.val (.ref a1), .val (.ref a2)] [(.ref a1)])
  refine own_by (fun t_ k_ => XS.aloadN X0.here hx rfl (hb hby d1_1) rfl rfl k_) ?_
  show own_Go p e below _ s₁ (mkF m 2 #[.val (.ref a1), .val (.ref a2)] [(.ref a2), (.ref a1)])
  refine own_by (fun t_ k_ => XS.iconst X0.here hx rfl (hb hby d1_2) k_) ?_
  show own_Go p e below _ s₁ (mkF m 3 #[.val (.ref a1), .val (.ref a2)] [(.int (0 : Int32)), (.ref a2), (.ref a1)])
  refine own_by (fun t_ k_ => XS.aloadN X0.here hx rfl (hb hby d1_3) rfl rfl k_) ?_
  show own_Go p e below _ s₁ (mkF m 4 #[.val (.ref a1), .val (.ref a2)] [(.ref a2), (.int (0 : Int32)), (.ref a2), (.ref a1)])
  refine own_alen X0 hx hZ e0 V_a2 (hb hby d1_4) ?_
  show own_Go p e below _ s₁ (mkF m 5 #[.val (.ref a1), .val (.ref a2)] [(.int (3 : Int32)), (.int (0 : Int32)), (.ref a2), (.ref a1)])
  refine own_by (fun t_ k_ => XS.aconstNull X0.here hx rfl (hb hby d1_5) k_) ?_
  show own_Go p e below _ s₁ (mkF m 6 #[.val (.ref a1), .val (.ref a2)] [.null, (.int (3 : Int32)), (.int (0 : Int32)), (.ref a2), (.ref a1)])
  refine own_callC (W := 0) X0 hx hZ (y := (⟨"java/lang/String", "<init>", "([CIILjava/lang/Void;)V"⟩ : MethodName)) rfl hown (own_w hw 9 rfl) (own_w hw 10 rfl) (own_w hw 4 rfl) (own_w hw 12 rfl) (by decide) (by rw [hml]; rfl) (argsL := [(.ref a2), (.int (0 : Int32)), (.int (3 : Int32)), .null]) pd_1 rfl (a := a1) (rm2_3 l Z a0 hw [] a1 a2 c0 c1 c2 cs h0 n0 Z0 E_a1 F_value F_coder g_a1 S_cs hcs S_ad S_hb S_lb V_a2 ok0 ok1 ok2) (by decide) (by decide) (Nat.le_of_eq rfl) (by decide) (by decide) (rest := []) e0 rfl (hb hby d1_6) ?_
  intro v1 T1 L1 X1 hQ1
  obtain ⟨rfl, N1q, K1q, S1⟩ := hQ1
  have N1 := Fr.app N0 N1q
  have sz1 : n0 ≤ T1.heap.size := Nat.le_trans Z0 K1q.1
  have K1 : Keep h0 T1.heap [a1] := K0.trans K1q (allS (Or.inl (List.mem_cons_self ..)) all0)
  show own_Go p e below _ T1 (mkF m 9 #[.val (.ref a1), .val (.ref a2)] [])
  refine own_retV X1 hx hlk Bd.returns (hb hby d1_9) rfl (by decide) (by decide) ?_
  exact ⟨rfl, N1, K1, S1⟩
theorem ef_13 (m : MethodId) (p1 : Int32) : entryFrame m #[(.int p1)] 1 = mkF m 0 #[.val (.int p1)] [] := by first | (simp [entryFrame, mkF, argsToLocals, Value.category]; done) | rfl
set_option maxRecDepth 65536 in
set_option maxHeartbeats 40000000 in
theorem rm13 (l : Launch) (Z : State) (a0 : Array Value) (hw : ∀ d ∈ tables_1, d.before a0 Z = true) (ws : List Jvm.Cond) (p1 : Int32) (h0 : Heap) (n0 : Nat) (Z0 : n0 ≤ h0.size) :
    MetFree l (⟨"java/lang/StringLatin1", "canEncode", "(C)Z"⟩ : MethodName) (head1 (Jvm.Cond.code (⟨"java/lang/StringLatin1", "canEncode", "(C)Z"⟩ : MethodName) jdk_43_method_3_code 1 (some .boolean) :: ws) ({ frames := 0, cells := 0, slots := 0, locals := 0 } : Room)) (fun a U => a = #[(.int p1)] ∧ Z.Warmed39 U.vm ∧ U.heap = h0) (fun _ _ _ _ _ => True) (fun _ U o U' => ∃ v L, o = .returned v ∧ QI (own_ce p1) h0 n0 v U'.heap L ∧ FrameEnd U o U' L ({ frames := 0, cells := 0, slots := 0, locals := 0 } : Room).cells ({ frames := 0, cells := 0, slots := 0, locals := 0 } : Room).slots) := by
  refine MetFree.of_bodySF (plainFor_of_name pn_13) hisR ?_
  intro p e s m args below meth c s₁ Bd hml0 hP hK
  obtain ⟨rfl, hZ, hh⟩ := hP
  have hx := Bd.exec
  have hby := Bd.bytes
  have hml : c.maxLocals = 1 := hml0
  have hown : s.vm.findClass "java/lang/StringLatin1" = some m.cls := findClass_of_methodNamed Bd.named
  have hnm := (name_of_methodNamed Bd.named Bd.method).1
  have hlk : meth.locks = false := BodyLoose.notSynchronized Bd
  have X0 : Stand p l e ({ frames := 0, cells := 0, slots := 0, locals := 0 } : Room) s m #[(.int p1)] below meth c s₁ [] 0 0 := Stand.of_body Bd
  have e0 : s₁.heap = h0 := by rw [← hh, Bd.state]; rfl
  have N0 := Fr.nil n0
  refine own_start (Q := QI (own_ce p1) h0 n0) (ef_13 m p1) ?_
  show own_Go p e below _ s₁ (mkF m 0 #[.val (.int p1)] [])
  refine own_by (fun t_ k_ => XS.iloadN X0.here hx rfl (hb hby d13_0) rfl k_) ?_
  show own_Go p e below _ s₁ (mkF m 1 #[.val (.int p1)] [(.int p1)])
  refine own_by (fun t_ k_ => XS.sipush X0.here hx rfl (hb hby d13_1) k_) ?_
  show own_Go p e below _ s₁ (mkF m 4 #[.val (.int p1)] [(.int (255 : Int32)), (.int p1)])
  refine own_icmp X0 hx 11 (hb hby d13_4) (by decide) (by decide) (fun (hc4 : (255 : Int32) < p1) => ?_) (fun (hc4 : ¬ (255 : Int32) < p1) => ?_)
  · show own_Go p e below _ s₁ (mkF m 11 #[.val (.int p1)] [])
    refine own_by (fun t_ k_ => XS.iconst X0.here hx rfl (hb hby d13_11) k_) ?_
    show own_Go p e below _ s₁ (mkF m 12 #[.val (.int p1)] [(.int (0 : Int32))])
    refine own_retZ X0 hx hlk Bd.returns (by decide) (hb hby d13_12) e0 (by decide) (by decide) ?_
    exact ⟨by rw [own_ce, if_pos hc4], N0, rfl⟩
  · show own_Go p e below _ s₁ (mkF m 7 #[.val (.int p1)] [])
    refine own_by (fun t_ k_ => XS.iconst X0.here hx rfl (hb hby d13_7) k_) ?_
    show own_Go p e below _ s₁ (mkF m 8 #[.val (.int p1)] [(.int (1 : Int32))])
    refine own_by (fun t_ k_ => XS.goto X0.here hx rfl (pc0 := 8) (pc' := 12) rfl (hb hby d13_8) (by decide) (by decide) k_) ?_
    show own_Go p e below _ s₁ (mkF m 12 #[.val (.int p1)] [(.int (1 : Int32))])
    refine own_retZ X0 hx hlk Bd.returns (by decide) (hb hby d13_12) e0 (by decide) (by decide) ?_
    exact ⟨by rw [own_ce, if_neg hc4], N0, rfl⟩
theorem ef_14 (m : MethodId) (p1 : Int32) : entryFrame m #[(.int p1)] 1 = mkF m 0 #[.val (.int p1)] [] := by first | (simp [entryFrame, mkF, argsToLocals, Value.category]; done) | rfl
set_option maxRecDepth 65536 in
set_option maxHeartbeats 40000000 in
theorem rm14 (l : Launch) (Z : State) (a0 : Array Value) (hw : ∀ d ∈ tables_1, d.before a0 Z = true) (ws : List Jvm.Cond) (p1 : Int32) (h0 : Heap) (n0 : Nat) (Z0 : n0 ≤ h0.size) :
    MetFree l (⟨"java/lang/StringLatin1", "toBytes", "(C)[B"⟩ : MethodName) (head1 (Jvm.Cond.code (⟨"java/lang/StringLatin1", "toBytes", "(C)[B"⟩ : MethodName) jdk_43_method_46_code 1 (some (.array .byte)) :: ws) ({ frames := 0, cells := 1, slots := 1, locals := 0 } : Room)) (fun a U => a = #[(.int p1)] ∧ Z.Warmed39 U.vm ∧ U.heap = h0) (fun _ _ _ _ _ => True) (fun _ U o U' => ∃ v L, o = .returned v ∧ QA Z [.int (nar .byte p1.toInt8.toInt32)] h0 n0 v U'.heap L ∧ FrameEnd U o U' L ({ frames := 0, cells := 1, slots := 1, locals := 0 } : Room).cells ({ frames := 0, cells := 1, slots := 1, locals := 0 } : Room).slots) := by
  refine MetFree.of_bodySF (plainFor_of_name pn_13) hisR ?_
  intro p e s m args below meth c s₁ Bd hml0 hP hK
  obtain ⟨rfl, hZ, hh⟩ := hP
  have hx := Bd.exec
  have hby := Bd.bytes
  have hml : c.maxLocals = 1 := hml0
  have hown : s.vm.findClass "java/lang/StringLatin1" = some m.cls := findClass_of_methodNamed Bd.named
  have hnm := (name_of_methodNamed Bd.named Bd.method).1
  have hlk : meth.locks = false := BodyLoose.notSynchronized Bd
  have X0 : Stand p l e ({ frames := 0, cells := 1, slots := 1, locals := 0 } : Room) s m #[(.int p1)] below meth c s₁ [] 0 0 := Stand.of_body Bd
  have e0 : s₁.heap = h0 := by rw [← hh, Bd.state]; rfl
  have N0 := Fr.nil n0
  refine own_start (Q := QA Z [.int (nar .byte p1.toInt8.toInt32)] h0 n0) (ef_14 m p1) ?_
  have K0 := Keep.refl h0 []
  show own_Go p e below _ s₁ (mkF m 0 #[.val (.int p1)] [])
  refine own_by (fun t_ k_ => XS.iconst X0.here hx rfl (hb hby d14_0) k_) ?_
  show own_Go p e below _ s₁ (mkF m 1 #[.val (.int p1)] [(.int (1 : Int32))])
  refine own_newP X0 hx hZ (own_w hw 21 rfl) e0 (hb hby d14_1) 1 1 (by decide) (by decide) (by decide) (by decide) (by decide) ?_
  intro T1 h1 b1 X1 e1 g1 E1 A1
  have g_b1 : n0 ≤ b1 := Nat.le_trans Z0 (Nat.le_of_eq g1.symm)
  have sz1 : n0 ≤ h1.size := Nat.le_trans Z0 E1.1
  have szk_b1 : h0.size ≤ b1 := Nat.le_trans K0.1 (Nat.le_of_eq g1.symm)
  have K1 : Keep h0 h1 [] := K0.ext E1
  have V1_0 : own_Arr Z h1 b1 .byte [(.int (0 : Int32))] := A1
  show own_Go p e below _ T1 (mkF m 3 #[.val (.int p1)] [(.ref b1)])
  refine own_by (fun t_ k_ => XS.dup X1.here hx rfl (hb hby d14_3) rfl rfl k_) ?_
  show own_Go p e below _ T1 (mkF m 4 #[.val (.int p1)] [(.ref b1), (.ref b1)])
  refine own_by (fun t_ k_ => XS.iconst X1.here hx rfl (hb hby d14_4) k_) ?_
  show own_Go p e below _ T1 (mkF m 5 #[.val (.int p1)] [(.int (0 : Int32)), (.ref b1), (.ref b1)])
  refine own_by (fun t_ k_ => XS.iloadN X1.here hx rfl (hb hby d14_5) rfl k_) ?_
  show own_Go p e below _ T1 (mkF m 6 #[.val (.int p1)] [(.int p1), (.int (0 : Int32)), (.ref b1), (.ref b1)])
  refine own_by (fun t_ k_ => XT.i2b X1.here hx rfl (hb hby d14_6) rfl k_) ?_
  show own_Go p e below _ T1 (mkF m 7 #[.val (.int p1)] [(.int p1.toInt8.toInt32), (.int (0 : Int32)), (.ref b1), (.ref b1)])
  refine own_bastore X1 hx hZ e1 V1_0 0 (by decide) (Nat.le_of_ble_eq_true rfl) (hb hby d14_7) ?_
  intro T2 h2 X2 e2 W2 A2
  have V2_0 : own_Arr Z h2 b1 .byte [(.int (nar .byte p1.toInt8.toInt32))] := A2
  have N2 := Fr.snoc X2 N0 g_b1
  have sz2 : n0 ≤ h2.size := Nat.le_trans sz1 (Keep.of_wr W2).1
  have K2 : Keep h0 h2 [] := K1.wr W2 (Or.inr szk_b1)
  show own_Go p e below _ T2 (mkF m 8 #[.val (.int p1)] [(.ref b1)])
  refine own_retR X2 hx hlk Bd.returns rfl rfl rfl (hb hby d14_8) e2 (by decide) (by decide) ?_
  exact ⟨b1, rfl, N2, K2, szk_b1, V2_0⟩
theorem ef_21 (m : MethodId) (p1 : Int32) : entryFrame m #[(.int p1)] 2 = mkF m 0 #[.val (.int p1), .unset] [] := by first | (simp [entryFrame, mkF, argsToLocals, Value.category]; done) | rfl
set_option maxRecDepth 65536 in
set_option maxHeartbeats 40000000 in
theorem rm21 (l : Launch) (Z : State) (a0 : Array Value) (hw : ∀ d ∈ tables_1, d.before a0 Z = true) (ws : List Jvm.Cond) (p1 : Int32) (h0 : Heap) (n0 : Nat) (Z0 : n0 ≤ h0.size) (S_ad : Sta Z h0 "java/lang/StringUTF16" "$assertionsDisabled" "Z" (.int (1 : Int32))) (S_hb : Sta Z h0 "java/lang/StringUTF16" "HI_BYTE_SHIFT" "I" (.int (0 : Int32))) (S_lb : Sta Z h0 "java/lang/StringUTF16" "LO_BYTE_SHIFT" "I" (.int (8 : Int32))) :
    MetFree l (⟨"java/lang/StringUTF16", "toBytes", "(C)[B"⟩ : MethodName) (head1 (Jvm.Cond.code (⟨"java/lang/StringUTF16", "toBytes", "(C)[B"⟩ : MethodName) jdk_52_method_24_code 2 (some (.array .byte)) :: ws) ({ frames := 1, cells := 1, slots := 2, locals := 16 } : Room)) (fun a U => a = #[(.int p1)] ∧ Z.Warmed39 U.vm ∧ U.heap = h0) (fun _ _ _ _ _ => True) (fun _ U o U' => ∃ v L, o = .returned v ∧ QA Z [.int (own_b0 p1), .int (own_b1 p1)] h0 n0 v U'.heap L ∧ FrameEnd U o U' L ({ frames := 1, cells := 1, slots := 2, locals := 16 } : Room).cells ({ frames := 1, cells := 1, slots := 2, locals := 16 } : Room).slots) := by
  refine MetFree.of_bodySF (plainFor_of_name pn_4) hisR ?_
  intro p e s m args below meth c s₁ Bd hml0 hP hK
  obtain ⟨rfl, hZ, hh⟩ := hP
  have hx := Bd.exec
  have hby := Bd.bytes
  have hml : c.maxLocals = 2 := hml0
  have hown : s.vm.findClass "java/lang/StringUTF16" = some m.cls := findClass_of_methodNamed Bd.named
  have hnm := (name_of_methodNamed Bd.named Bd.method).1
  have hlk : meth.locks = false := BodyLoose.notSynchronized Bd
  have X0 : Stand p l e ({ frames := 1, cells := 1, slots := 2, locals := 16 } : Room) s m #[(.int p1)] below meth c s₁ [] 0 0 := Stand.of_body Bd
  have e0 : s₁.heap = h0 := by rw [← hh, Bd.state]; rfl
  have N0 := Fr.nil n0
  refine own_start (Q := QA Z [.int (own_b0 p1), .int (own_b1 p1)] h0 n0) (ef_21 m p1) ?_
  have K0 := Keep.refl h0 []
  show own_Go p e below _ s₁ (mkF m 0 #[.val (.int p1), .unset] [])
  refine own_by (fun t_ k_ => XS.iconst X0.here hx rfl (hb hby d21_0) k_) ?_
  show own_Go p e below _ s₁ (mkF m 1 #[.val (.int p1), .unset] [(.int (2 : Int32))])
  refine own_newP X0 hx hZ (own_w hw 21 rfl) e0 (hb hby d21_1) 2 2 (by decide) (by decide) (by decide) (by decide) (by decide) ?_
  intro T1 h1 b1 X1 e1 g1 E1 A1
  have g_b1 : n0 ≤ b1 := Nat.le_trans Z0 (Nat.le_of_eq g1.symm)
  have sz1 : n0 ≤ h1.size := Nat.le_trans Z0 E1.1
  have szk_b1 : h0.size ≤ b1 := Nat.le_trans K0.1 (Nat.le_of_eq g1.symm)
  have K1 : Keep h0 h1 [] := K0.ext E1
  have V1_0 : own_Arr Z h1 b1 .byte [(.int (0 : Int32)), (.int (0 : Int32))] := A1
  show own_Go p e below _ T1 (mkF m 3 #[.val (.int p1), .unset] [(.ref b1)])
  refine own_by (fun t_ k_ => XS.astoreN X1.here hx rfl (hb hby d21_3) rfl rfl (l' := #[.val (.int p1), .val (.ref b1)]) rfl k_) ?_
  show own_Go p e below _ T1 (mkF m 4 #[.val (.int p1), .val (.ref b1)] [])
  refine own_by (fun t_ k_ => XS.aloadN X1.here hx rfl (hb hby d21_4) rfl rfl k_) ?_
  show own_Go p e below _ T1 (mkF m 5 #[.val (.int p1), .val (.ref b1)] [(.ref b1)])
  refine own_by (fun t_ k_ => XS.iconst X1.here hx rfl (hb hby d21_5) k_) ?_
  show own_Go p e below _ T1 (mkF m 6 #[.val (.int p1), .val (.ref b1)] [(.int (0 : Int32)), (.ref b1)])
  refine own_by (fun t_ k_ => XS.iloadN X1.here hx rfl (hb hby d21_6) rfl k_) ?_
  show own_Go p e below _ T1 (mkF m 7 #[.val (.int p1), .val (.ref b1)] [(.int p1), (.int (0 : Int32)), (.ref b1)])
  have S_ad_2 : Sta Z h1 "java/lang/StringUTF16" "$assertionsDisabled" "Z" (.int (1 : Int32)) := (Sta.ext E1 S_ad)
  have S_hb_3 : Sta Z h1 "java/lang/StringUTF16" "HI_BYTE_SHIFT" "I" (.int (0 : Int32)) := (Sta.ext E1 S_hb)
  have S_lb_4 : Sta Z h1 "java/lang/StringUTF16" "LO_BYTE_SHIFT" "I" (.int (8 : Int32)) := (Sta.ext E1 S_lb)
  refine own_callS (W := 0) X1 hx hZ (y := (⟨"java/lang/StringUTF16", "putChar", "([BII)V"⟩ : MethodName)) hown (own_w hw 96 rfl) (own_w hw 97 rfl) (own_w hw 19 rfl) (own_w hw 98 rfl) (by decide) (by rw [hml]; rfl) (argsL := [(.ref b1), (.int (0 : Int32)), (.int p1)]) pd_15 rfl (rm19 l Z a0 hw [] b1 (0 : Int32) p1 0 [(.int (0 : Int32)), (.int (0 : Int32))] h1 n0 sz1 S_ad_2 S_hb_3 S_lb_4 V1_0 g_b1 (by decide) (by simp) (by decide)) (by decide) (by decide) (Nat.le_of_eq rfl) (by decide) (by decide) (rest := []) e1 rfl (hb hby d21_7) ?_
  intro v5 T5 L5 X5 hQ5
  obtain ⟨rfl, N5q, K5q, A5⟩ := hQ5
  have N5 := Fr.app N0 N5q
  have sz5 : n0 ≤ T5.heap.size := Nat.le_trans sz1 K5q.1
  have K5 : Keep h0 T5.heap [] := K1.trans K5q (allS (Or.inr szk_b1) all0)
  have V5_0 : own_Arr Z T5.heap b1 .byte [(.int (own_b0 p1)), (.int (own_b1 p1))] := A5
  show own_Go p e below _ T5 (mkF m 10 #[.val (.int p1), .val (.ref b1)] [])
  refine own_by (fun t_ k_ => XS.aloadN X5.here hx rfl (hb hby d21_10) rfl rfl k_) ?_
  show own_Go p e below _ T5 (mkF m 11 #[.val (.int p1), .val (.ref b1)] [(.ref b1)])
  refine own_retR X5 hx hlk Bd.returns rfl rfl rfl (hb hby d21_11) rfl (by decide) (by decide) ?_
  exact ⟨b1, rfl, N5, K5, szk_b1, V5_0⟩
theorem ef_15_0 (m : MethodId) (a1 : Addr) (a2 : Addr) : entryFrame m #[(.ref a1), (.ref a2), (.int (0 : Int32))] 3 = mkF m 0 #[.val (.ref a1), .val (.ref a2), .val (.int (0 : Int32))] [] := by first | (simp [entryFrame, mkF, argsToLocals, Value.category]; done) | rfl
set_option maxRecDepth 65536 in
set_option maxHeartbeats 40000000 in
theorem rm15_0 (l : Launch) (Z : State) (a0 : Array Value) (hw : ∀ d ∈ tables_1, d.before a0 Z = true) (ws : List Jvm.Cond) (a1 : Addr) (a2 : Addr) (h0 : Heap) (n0 : Nat) (Z0 : n0 ≤ h0.size) (E_a1 : Exa Z h0 a1 "java/lang/String") (F_value : Fld Z h0 a1 "java/lang/String" "value" "[B" .null) (F_coder : Fld Z h0 a1 "java/lang/String" "coder" "B" (.int (0 : Int32))) (g_a1 : n0 ≤ a1) :
    MetFree l (⟨"java/lang/String", "<init>", "([BB)V"⟩ : MethodName) (head1 (Jvm.Cond.code (⟨"java/lang/String", "<init>", "([BB)V"⟩ : MethodName) jdk_42_method_151_code 3 none :: ws) ({ frames := 1, cells := 0, slots := 0, locals := 12 } : Room)) (fun a U => a = #[(.ref a1), (.ref a2), (.int (0 : Int32))] ∧ Z.Warmed39 U.vm ∧ U.heap = h0) (fun _ _ _ _ _ => True) (fun _ U o U' => ∃ v L, o = .returned v ∧ QF Z a1 a2 0 h0 n0 v U'.heap L ∧ FrameEnd U o U' L ({ frames := 1, cells := 0, slots := 0, locals := 12 } : Room).cells ({ frames := 1, cells := 0, slots := 0, locals := 12 } : Room).slots) := by
  refine MetFree.of_bodySF (plainFor_of_name pn_1) hisR ?_
  intro p e s m args below meth c s₁ Bd hml0 hP hK
  obtain ⟨rfl, hZ, hh⟩ := hP
  have hx := Bd.exec
  have hby := Bd.bytes
  have hml : c.maxLocals = 3 := hml0
  have hown : s.vm.findClass "java/lang/String" = some m.cls := findClass_of_methodNamed Bd.named
  have hnm := (name_of_methodNamed Bd.named Bd.method).1
  have hlk : meth.locks = false := BodyLoose.notSynchronized Bd
  have X0 : Stand p l e ({ frames := 1, cells := 0, slots := 0, locals := 12 } : Room) s m #[(.ref a1), (.ref a2), (.int (0 : Int32))] below meth c s₁ [] 0 0 := Stand.of_body Bd
  have e0 : s₁.heap = h0 := by rw [← hh, Bd.state]; rfl
  have N0 := Fr.nil n0
  refine own_start (Q := QF Z a1 a2 0 h0 n0) (ef_15_0 m a1 a2) ?_
  have K0 := Keep.refl h0 [a1]
  show own_Go p e below _ s₁ (mkF m 0 #[.val (.ref a1), .val (.ref a2), .val (.int (0 : Int32))] [])
  refine own_by (fun t_ k_ => XS.aloadN X0.here hx rfl (hb hby d15_0) rfl rfl k_) ?_
  show own_Go p e below _ s₁ (mkF m 1 #[.val (.ref a1), .val (.ref a2), .val (.int (0 : Int32))] [(.ref a1)])
  refine own_initO X0 hx hZ hown (own_w hw 13 rfl) (own_w hw 14 rfl) (own_w hw 15 rfl) e0 (by rw [hml]; rfl) (hb hby d15_1) (by decide) (W := 0) (Nat.le_of_eq rfl) (by decide) ?_
  intro T1 X1 e1
  show own_Go p e below _ T1 (mkF m 4 #[.val (.ref a1), .val (.ref a2), .val (.int (0 : Int32))] [])
  refine own_by (fun t_ k_ => XS.aloadN X1.here hx rfl (hb hby d15_4) rfl rfl k_) ?_
  show own_Go p e below _ T1 (mkF m 5 #[.val (.ref a1), .val (.ref a2), .val (.int (0 : Int32))] [(.ref a1)])
  refine own_by (fun t_ k_ => XS.aloadN X1.here hx rfl (hb hby d15_5) rfl rfl k_) ?_
  show own_Go p e below _ T1 (mkF m 6 #[.val (.ref a1), .val (.ref a2), .val (.int (0 : Int32))] [(.ref a2), (.ref a1)])
  refine own_putF X1 hx hZ hown (own_w hw 30 rfl) Via.refl e1 F_value E_a1 (Or.inr ⟨(own_w hw 31 rfl), rfl, hnm⟩) (own_w hw 3 rfl) (ty := (.array .byte)) (by decide) rfl rfl (hb hby d15_6) ?_
  intro T2 h2 X2 e2 W2
  have F2 := Fld.same W2 F_value
  have N2 := Fr.snoc X2 N0 g_a1
  have sz2 : n0 ≤ h2.size := Nat.le_trans Z0 (Keep.of_wr W2).1
  have K2 : Keep h0 h2 [a1] := K0.wr W2 (Or.inl (List.mem_cons_self ..))
  show own_Go p e below _ T2 (mkF m 9 #[.val (.ref a1), .val (.ref a2), .val (.int (0 : Int32))] [])
  refine own_by (fun t_ k_ => XS.aloadN X2.here hx rfl (hb hby d15_9) rfl rfl k_) ?_
  show own_Go p e below _ T2 (mkF m 10 #[.val (.ref a1), .val (.ref a2), .val (.int (0 : Int32))] [(.ref a1)])
  refine own_by (fun t_ k_ => XS.iloadN X2.here hx rfl (hb hby d15_10) rfl k_) ?_
  show own_Go p e below _ T2 (mkF m 11 #[.val (.ref a1), .val (.ref a2), .val (.int (0 : Int32))] [(.int (0 : Int32)), (.ref a1)])
  have F_coder_4 : Fld Z h2 a1 "java/lang/String" "coder" "B" (.int (0 : Int32)) := (Fld.other W2 F_coder (Or.inr (slot_ne (Or.inr (own_w hw 29 rfl)) (Or.inr (own_w hw 31 rfl)) (by decide) (t := .byte) (t' := (.array .byte)) (by decide) (by decide))))
  have E_a1_5 : Exa Z h2 a1 "java/lang/String" := (Exa.wr W2 E_a1)
  refine own_putF X2 hx hZ hown (own_w hw 28 rfl) Via.refl e2 F_coder_4 E_a1_5 (Or.inr ⟨(own_w hw 29 rfl), rfl, hnm⟩) (own_w hw 3 rfl) (ty := .byte) (by decide) rfl rfl (hb hby d15_11) ?_
  intro T3 h3 X3 e3 W3
  have F3 := Fld.same W3 F_coder_4
  have N3 := Fr.snoc X3 N2 g_a1
  have sz3 : n0 ≤ h3.size := Nat.le_trans sz2 (Keep.of_wr W3).1
  have K3 : Keep h0 h3 [a1] := K2.wr W3 (Or.inl (List.mem_cons_self ..))
  show own_Go p e below _ T3 (mkF m 14 #[.val (.ref a1), .val (.ref a2), .val (.int (0 : Int32))] [])
  refine own_retV X3 hx hlk Bd.returns (hb hby d15_14) e3 (by decide) (by decide) ?_
  have E_a1_6 : Exa Z h3 a1 "java/lang/String" := (Exa.wr W3 E_a1_5)
  have F2_7 : Fld Z h3 a1 "java/lang/String" "value" "[B" (.ref a2) := (Fld.other W3 F2 (Or.inr (slot_ne (Or.inr (own_w hw 31 rfl)) (Or.inr (own_w hw 29 rfl)) (by decide) (t := (.array .byte)) (t' := .byte) (by decide) (by decide))))
  exact ⟨rfl, N3, K3, E_a1_6, F3, F2_7⟩
theorem ef_15_1 (m : MethodId) (a1 : Addr) (a2 : Addr) : entryFrame m #[(.ref a1), (.ref a2), (.int (1 : Int32))] 3 = mkF m 0 #[.val (.ref a1), .val (.ref a2), .val (.int (1 : Int32))] [] := by first | (simp [entryFrame, mkF, argsToLocals, Value.category]; done) | rfl
set_option maxRecDepth 65536 in
set_option maxHeartbeats 40000000 in
theorem rm15_1 (l : Launch) (Z : State) (a0 : Array Value) (hw : ∀ d ∈ tables_1, d.before a0 Z = true) (ws : List Jvm.Cond) (a1 : Addr) (a2 : Addr) (h0 : Heap) (n0 : Nat) (Z0 : n0 ≤ h0.size) (E_a1 : Exa Z h0 a1 "java/lang/String") (F_value : Fld Z h0 a1 "java/lang/String" "value" "[B" .null) (F_coder : Fld Z h0 a1 "java/lang/String" "coder" "B" (.int (0 : Int32))) (g_a1 : n0 ≤ a1) :
    MetFree l (⟨"java/lang/String", "<init>", "([BB)V"⟩ : MethodName) (head1 (Jvm.Cond.code (⟨"java/lang/String", "<init>", "([BB)V"⟩ : MethodName) jdk_42_method_151_code 3 none :: ws) ({ frames := 1, cells := 0, slots := 0, locals := 12 } : Room)) (fun a U => a = #[(.ref a1), (.ref a2), (.int (1 : Int32))] ∧ Z.Warmed39 U.vm ∧ U.heap = h0) (fun _ _ _ _ _ => True) (fun _ U o U' => ∃ v L, o = .returned v ∧ QF Z a1 a2 1 h0 n0 v U'.heap L ∧ FrameEnd U o U' L ({ frames := 1, cells := 0, slots := 0, locals := 12 } : Room).cells ({ frames := 1, cells := 0, slots := 0, locals := 12 } : Room).slots) := by
  refine MetFree.of_bodySF (plainFor_of_name pn_1) hisR ?_
  intro p e s m args below meth c s₁ Bd hml0 hP hK
  obtain ⟨rfl, hZ, hh⟩ := hP
  have hx := Bd.exec
  have hby := Bd.bytes
  have hml : c.maxLocals = 3 := hml0
  have hown : s.vm.findClass "java/lang/String" = some m.cls := findClass_of_methodNamed Bd.named
  have hnm := (name_of_methodNamed Bd.named Bd.method).1
  have hlk : meth.locks = false := BodyLoose.notSynchronized Bd
  have X0 : Stand p l e ({ frames := 1, cells := 0, slots := 0, locals := 12 } : Room) s m #[(.ref a1), (.ref a2), (.int (1 : Int32))] below meth c s₁ [] 0 0 := Stand.of_body Bd
  have e0 : s₁.heap = h0 := by rw [← hh, Bd.state]; rfl
  have N0 := Fr.nil n0
  refine own_start (Q := QF Z a1 a2 1 h0 n0) (ef_15_1 m a1 a2) ?_
  have K0 := Keep.refl h0 [a1]
  show own_Go p e below _ s₁ (mkF m 0 #[.val (.ref a1), .val (.ref a2), .val (.int (1 : Int32))] [])
  refine own_by (fun t_ k_ => XS.aloadN X0.here hx rfl (hb hby d15_0) rfl rfl k_) ?_
  show own_Go p e below _ s₁ (mkF m 1 #[.val (.ref a1), .val (.ref a2), .val (.int (1 : Int32))] [(.ref a1)])
  refine own_initO X0 hx hZ hown (own_w hw 13 rfl) (own_w hw 14 rfl) (own_w hw 15 rfl) e0 (by rw [hml]; rfl) (hb hby d15_1) (by decide) (W := 0) (Nat.le_of_eq rfl) (by decide) ?_
  intro T1 X1 e1
  show own_Go p e below _ T1 (mkF m 4 #[.val (.ref a1), .val (.ref a2), .val (.int (1 : Int32))] [])
  refine own_by (fun t_ k_ => XS.aloadN X1.here hx rfl (hb hby d15_4) rfl rfl k_) ?_
  show own_Go p e below _ T1 (mkF m 5 #[.val (.ref a1), .val (.ref a2), .val (.int (1 : Int32))] [(.ref a1)])
  refine own_by (fun t_ k_ => XS.aloadN X1.here hx rfl (hb hby d15_5) rfl rfl k_) ?_
  show own_Go p e below _ T1 (mkF m 6 #[.val (.ref a1), .val (.ref a2), .val (.int (1 : Int32))] [(.ref a2), (.ref a1)])
  refine own_putF X1 hx hZ hown (own_w hw 30 rfl) Via.refl e1 F_value E_a1 (Or.inr ⟨(own_w hw 31 rfl), rfl, hnm⟩) (own_w hw 3 rfl) (ty := (.array .byte)) (by decide) rfl rfl (hb hby d15_6) ?_
  intro T2 h2 X2 e2 W2
  have F2 := Fld.same W2 F_value
  have N2 := Fr.snoc X2 N0 g_a1
  have sz2 : n0 ≤ h2.size := Nat.le_trans Z0 (Keep.of_wr W2).1
  have K2 : Keep h0 h2 [a1] := K0.wr W2 (Or.inl (List.mem_cons_self ..))
  show own_Go p e below _ T2 (mkF m 9 #[.val (.ref a1), .val (.ref a2), .val (.int (1 : Int32))] [])
  refine own_by (fun t_ k_ => XS.aloadN X2.here hx rfl (hb hby d15_9) rfl rfl k_) ?_
  show own_Go p e below _ T2 (mkF m 10 #[.val (.ref a1), .val (.ref a2), .val (.int (1 : Int32))] [(.ref a1)])
  refine own_by (fun t_ k_ => XS.iloadN X2.here hx rfl (hb hby d15_10) rfl k_) ?_
  show own_Go p e below _ T2 (mkF m 11 #[.val (.ref a1), .val (.ref a2), .val (.int (1 : Int32))] [(.int (1 : Int32)), (.ref a1)])
  have F_coder_4 : Fld Z h2 a1 "java/lang/String" "coder" "B" (.int (0 : Int32)) := (Fld.other W2 F_coder (Or.inr (slot_ne (Or.inr (own_w hw 29 rfl)) (Or.inr (own_w hw 31 rfl)) (by decide) (t := .byte) (t' := (.array .byte)) (by decide) (by decide))))
  have E_a1_5 : Exa Z h2 a1 "java/lang/String" := (Exa.wr W2 E_a1)
  refine own_putF X2 hx hZ hown (own_w hw 28 rfl) Via.refl e2 F_coder_4 E_a1_5 (Or.inr ⟨(own_w hw 29 rfl), rfl, hnm⟩) (own_w hw 3 rfl) (ty := .byte) (by decide) rfl rfl (hb hby d15_11) ?_
  intro T3 h3 X3 e3 W3
  have F3 := Fld.same W3 F_coder_4
  have N3 := Fr.snoc X3 N2 g_a1
  have sz3 : n0 ≤ h3.size := Nat.le_trans sz2 (Keep.of_wr W3).1
  have K3 : Keep h0 h3 [a1] := K2.wr W3 (Or.inl (List.mem_cons_self ..))
  show own_Go p e below _ T3 (mkF m 14 #[.val (.ref a1), .val (.ref a2), .val (.int (1 : Int32))] [])
  refine own_retV X3 hx hlk Bd.returns (hb hby d15_14) e3 (by decide) (by decide) ?_
  have E_a1_6 : Exa Z h3 a1 "java/lang/String" := (Exa.wr W3 E_a1_5)
  have F2_7 : Fld Z h3 a1 "java/lang/String" "value" "[B" (.ref a2) := (Fld.other W3 F2 (Or.inr (slot_ne (Or.inr (own_w hw 31 rfl)) (Or.inr (own_w hw 29 rfl)) (by decide) (t := (.array .byte)) (t' := .byte) (by decide) (by decide))))
  exact ⟨rfl, N3, K3, E_a1_6, F3, F2_7⟩
theorem ef_12 (m : MethodId) (p1 : Int32) : entryFrame m #[(.int p1)] 1 = mkF m 0 #[.val (.int p1)] [] := by first | (simp [entryFrame, mkF, argsToLocals, Value.category]; done) | rfl
set_option maxRecDepth 65536 in
set_option maxHeartbeats 40000000 in
theorem rm12 (l : Launch) (Z : State) (a0 : Array Value) (hw : ∀ d ∈ tables_1, d.before a0 Z = true) (ws : List Jvm.Cond) (p1 : Int32) (cs : Int32) (h0 : Heap) (n0 : Nat) (Z0 : n0 ≤ h0.size) (S_cs : Sta Z h0 "java/lang/String" "COMPACT_STRINGS" "Z" (.int cs)) (hcs : ¬ cs = 0) (S_ad : Sta Z h0 "java/lang/StringUTF16" "$assertionsDisabled" "Z" (.int (1 : Int32))) (S_hb : Sta Z h0 "java/lang/StringUTF16" "HI_BYTE_SHIFT" "I" (.int (0 : Int32))) (S_lb : Sta Z h0 "java/lang/StringUTF16" "LO_BYTE_SHIFT" "I" (.int (8 : Int32))) :
    MetFree l (⟨"java/lang/String", "valueOf", "(C)Ljava/lang/String;"⟩ : MethodName) (head1 (Jvm.Cond.code (⟨"java/lang/String", "valueOf", "(C)Ljava/lang/String;"⟩ : MethodName) jdk_42_method_139_code 1 (some (.object "java/lang/String")) :: ws) ({ frames := 2, cells := 2, slots := 6, locals := 40 } : Room)) (fun a U => a = #[(.int p1)] ∧ Z.Warmed39 U.vm ∧ U.heap = h0) (fun _ _ _ _ _ => True) (fun _ U o U' => ∃ v L, o = .returned v ∧ QR Z 1 h0 n0 v U'.heap L ∧ FrameEnd U o U' L ({ frames := 2, cells := 2, slots := 6, locals := 40 } : Room).cells ({ frames := 2, cells := 2, slots := 6, locals := 40 } : Room).slots) := by
  refine MetFree.of_bodySF (plainFor_of_name pn_1) hisR ?_
  intro p e s m args below meth c s₁ Bd hml0 hP hK
  obtain ⟨rfl, hZ, hh⟩ := hP
  have hx := Bd.exec
  have hby := Bd.bytes
  have hml : c.maxLocals = 1 := hml0
  have hown : s.vm.findClass "java/lang/String" = some m.cls := findClass_of_methodNamed Bd.named
  have hnm := (name_of_methodNamed Bd.named Bd.method).1
  have hlk : meth.locks = false := BodyLoose.notSynchronized Bd
  have X0 : Stand p l e ({ frames := 2, cells := 2, slots := 6, locals := 40 } : Room) s m #[(.int p1)] below meth c s₁ [] 0 0 := Stand.of_body Bd
  have e0 : s₁.heap = h0 := by rw [← hh, Bd.state]; rfl
  have N0 := Fr.nil n0
  refine own_start (Q := QR Z 1 h0 n0) (ef_12 m p1) ?_
  have K0 := Keep.refl h0 []
  show own_Go p e below _ s₁ (mkF m 0 #[.val (.int p1)] [])
  refine own_getS X0 hx hZ hown (own_w hw 16 rfl) Via.refl e0 S_cs (hb hby d12_0) ?_
  intro T1 X1 e1
  show own_Go p e below _ T1 (mkF m 3 #[.val (.int p1)] [(.int cs)])
  refine own_if X1 hx 26 (hb hby d12_3) (by decide) (by decide) (fun hc => absurd (show ¬ cs = (0 : Int32) from hcs) (by first | exact hc | exact not_not_intro hc)) (fun _ => ?_)
  show own_Go p e below _ T1 (mkF m 6 #[.val (.int p1)] [])
  refine own_by (fun t_ k_ => XS.iloadN X1.here hx rfl (hb hby d12_6) rfl k_) ?_
  show own_Go p e below _ T1 (mkF m 7 #[.val (.int p1)] [(.int p1)])
  refine own_callS (W := 0) X1 hx hZ (y := (⟨"java/lang/StringLatin1", "canEncode", "(C)Z"⟩ : MethodName)) hown (own_w hw 73 rfl) (own_w hw 74 rfl) (own_w hw 75 rfl) (own_w hw 76 rfl) (by decide) (by rw [hml]; rfl) (argsL := [(.int p1)]) pd_10 rfl (rm13 l Z a0 hw [] p1 h0 n0 Z0) (by decide) (by decide) (Nat.le_of_eq rfl) (by decide) (by decide) (rest := []) e1 rfl (hb hby d12_7) ?_
  intro v2 T2 L2 X2 hQ2
  obtain ⟨rfl, N2q, e2⟩ := hQ2
  have N2 := Fr.app N0 N2q
  show own_Go p e below _ T2 (mkF m 10 #[.val (.int p1)] [(.int (own_ce p1))])
  refine own_if X2 hx 26 (hb hby d12_10) (by decide) (by decide) (fun (hc10 : (own_ce p1) = (0 : Int32)) => ?_) (fun (hc10 : ¬ (own_ce p1) = (0 : Int32)) => ?_)
  · show own_Go p e below _ T2 (mkF m 26 #[.val (.int p1)] [])
    refine own_newO X2 hx hZ hown (own_w hw 77 rfl) (own_w hw 3 rfl) (own_w hw 4 rfl) e2 (hb hby d12_26) (by decide) (by decide) ?_
    intro T3 h3 b3 X3 e3 g3 E3 A3 D3
    have g_b3 : n0 ≤ b3 := Nat.le_trans Z0 (Nat.le_of_eq g3.symm)
    have sz3 : n0 ≤ h3.size := Nat.le_trans Z0 E3.1
    have szk_b3 : h0.size ≤ b3 := Nat.le_trans K0.1 (Nat.le_of_eq g3.symm)
    have K3 : Keep h0 h3 [] := K0.ext E3
    have F4_0 : Fld Z h3 b3 "java/lang/String" "coder" "B" (.int (0 : Int32)) := D3 (Or.inr (own_w hw 29 rfl)) (ty := .byte) (by decide)
    have F5_0 : Fld Z h3 b3 "java/lang/String" "value" "[B" .null := D3 (Or.inr (own_w hw 31 rfl)) (ty := (.array .byte)) (by decide)
    show own_Go p e below _ T3 (mkF m 29 #[.val (.int p1)] [(.ref b3)])
    refine own_by (fun t_ k_ => XS.dup X3.here hx rfl (hb hby d12_29) rfl rfl k_) ?_
    show own_Go p e below _ T3 (mkF m 30 #[.val (.int p1)] [(.ref b3), (.ref b3)])
    refine own_by (fun t_ k_ => XS.iloadN X3.here hx rfl (hb hby d12_30) rfl k_) ?_
    show own_Go p e below _ T3 (mkF m 31 #[.val (.int p1)] [(.int p1), (.ref b3), (.ref b3)])
    have S_ad_6 : Sta Z h3 "java/lang/StringUTF16" "$assertionsDisabled" "Z" (.int (1 : Int32)) := (Sta.ext E3 S_ad)
    have S_hb_7 : Sta Z h3 "java/lang/StringUTF16" "HI_BYTE_SHIFT" "I" (.int (0 : Int32)) := (Sta.ext E3 S_hb)
    have S_lb_8 : Sta Z h3 "java/lang/StringUTF16" "LO_BYTE_SHIFT" "I" (.int (8 : Int32)) := (Sta.ext E3 S_lb)
    refine own_callS (W := 2) X3 hx hZ (y := (⟨"java/lang/StringUTF16", "toBytes", "(C)[B"⟩ : MethodName)) hown (own_w hw 110 rfl) (own_w hw 111 rfl) (own_w hw 19 rfl) (own_w hw 112 rfl) (by decide) (by rw [hml]; rfl) (argsL := [(.int p1)]) pd_11 rfl (rm21 l Z a0 hw [] p1 h3 n0 sz3 S_ad_6 S_hb_7 S_lb_8) (by decide) (by decide) (Nat.le_of_eq rfl) (by decide) (by decide) (rest := [(.ref b3), (.ref b3)]) e3 rfl (hb hby d12_31) ?_
    intro v9 T9 L9 X9 hQ9
    obtain ⟨r9, rfl, N9q, K9q, hb9, A9⟩ := hQ9
    have lt_b3_r9 : b3 < r9 := Nat.lt_of_lt_of_le A3.lt hb9
    have N9 := Fr.app N2 N9q
    have sz9 : n0 ≤ T9.heap.size := Nat.le_trans sz3 K9q.1
    have K9 : Keep h0 T9.heap [] := K3.trans K9q (all0)
    show own_Go p e below _ T9 (mkF m 34 #[.val (.int p1)] [(.ref r9), (.ref b3), (.ref b3)])
    refine own_by (fun t_ k_ => XS.iconst X9.here hx rfl (hb hby d12_34) k_) ?_
    show own_Go p e below _ T9 (mkF m 35 #[.val (.int p1)] [(.int (1 : Int32)), (.ref r9), (.ref b3), (.ref b3)])
    have A3_10 : Exa Z T9.heap b3 "java/lang/String" := (Exa.keep A3 K9q)
    have F5_11 : Fld Z T9.heap b3 "java/lang/String" "value" "[B" .null := (Fld.keep F5_0 K9q nin0)
    have F4_12 : Fld Z T9.heap b3 "java/lang/String" "coder" "B" (.int (0 : Int32)) := (Fld.keep F4_0 K9q nin0)
    refine own_callC (W := 1) X9 hx hZ (y := (⟨"java/lang/String", "<init>", "([BB)V"⟩ : MethodName)) rfl hown (own_w hw 81 rfl) (own_w hw 82 rfl) (own_w hw 4 rfl) (own_w hw 83 rfl) (by decide) (by rw [hml]; rfl) (argsL := [(.ref r9), (.int (1 : Int32))]) pd_12 rfl (a := b3) (rm15_1 l Z a0 hw [] b3 r9 T9.heap n0 sz9 A3_10 F5_11 F4_12 g_b3) (by decide) (by decide) (Nat.le_of_eq rfl) (by decide) (by decide) (rest := [(.ref b3)]) rfl rfl (hb hby d12_35) ?_
    intro v13 T13 L13 X13 hQ13
    obtain ⟨rfl, N13q, K13q, E13, C13, W13⟩ := hQ13
    have N13 := Fr.app N9 N13q
    have sz13 : n0 ≤ T13.heap.size := Nat.le_trans sz9 K13q.1
    have K13 : Keep h0 T13.heap [] := K9.trans K13q (allS (Or.inr szk_b3) all0)
    show own_Go p e below _ T13 (mkF m 38 #[.val (.int p1)] [(.ref b3)])
    refine own_retR X13 hx hlk Bd.returns rfl rfl rfl (hb hby d12_38) rfl (by decide) (by decide) ?_
    have A9_14 : own_Arr Z T13.heap r9 .byte [(.int (own_b0 p1)), (.int (own_b1 p1))] := (own_Arr.keep A9 K13q (ninS (Ne.symm (Nat.ne_of_lt lt_b3_r9)) nin0))
    exact ⟨b3, rfl, N13, K13, _, _, _, 2, E13, C13, W13, A9_14, rfl, Or.inr rfl, by decide⟩
  · show own_Go p e below _ T2 (mkF m 13 #[.val (.int p1)] [])
    refine own_newO X2 hx hZ hown (own_w hw 77 rfl) (own_w hw 3 rfl) (own_w hw 4 rfl) e2 (hb hby d12_13) (by decide) (by decide) ?_
    intro T15 h15 b15 X15 e15 g15 E15 A15 D15
    have g_b15 : n0 ≤ b15 := Nat.le_trans Z0 (Nat.le_of_eq g15.symm)
    have sz15 : n0 ≤ h15.size := Nat.le_trans Z0 E15.1
    have szk_b15 : h0.size ≤ b15 := Nat.le_trans K0.1 (Nat.le_of_eq g15.symm)
    have K15 : Keep h0 h15 [] := K0.ext E15
    have F16_0 : Fld Z h15 b15 "java/lang/String" "coder" "B" (.int (0 : Int32)) := D15 (Or.inr (own_w hw 29 rfl)) (ty := .byte) (by decide)
    have F17_0 : Fld Z h15 b15 "java/lang/String" "value" "[B" .null := D15 (Or.inr (own_w hw 31 rfl)) (ty := (.array .byte)) (by decide)
    show own_Go p e below _ T15 (mkF m 16 #[.val (.int p1)] [(.ref b15)])
    refine own_by (fun t_ k_ => XS.dup X15.here hx rfl (hb hby d12_16) rfl rfl k_) ?_
    show own_Go p e below _ T15 (mkF m 17 #[.val (.int p1)] [(.ref b15), (.ref b15)])
    refine own_by (fun t_ k_ => XS.iloadN X15.here hx rfl (hb hby d12_17) rfl k_) ?_
    show own_Go p e below _ T15 (mkF m 18 #[.val (.int p1)] [(.int p1), (.ref b15), (.ref b15)])
    refine own_callS (W := 2) X15 hx hZ (y := (⟨"java/lang/StringLatin1", "toBytes", "(C)[B"⟩ : MethodName)) hown (own_w hw 78 rfl) (own_w hw 79 rfl) (own_w hw 75 rfl) (own_w hw 80 rfl) (by decide) (by rw [hml]; rfl) (argsL := [(.int p1)]) pd_11 rfl (rm14 l Z a0 hw [] p1 h15 n0 sz15) (by decide) (by decide) (Nat.le_of_eq rfl) (by decide) (by decide) (rest := [(.ref b15), (.ref b15)]) e15 rfl (hb hby d12_18) ?_
    intro v18 T18 L18 X18 hQ18
    obtain ⟨r18, rfl, N18q, K18q, hb18, A18⟩ := hQ18
    have lt_b15_r18 : b15 < r18 := Nat.lt_of_lt_of_le A15.lt hb18
    have N18 := Fr.app N2 N18q
    have sz18 : n0 ≤ T18.heap.size := Nat.le_trans sz15 K18q.1
    have K18 : Keep h0 T18.heap [] := K15.trans K18q (all0)
    show own_Go p e below _ T18 (mkF m 21 #[.val (.int p1)] [(.ref r18), (.ref b15), (.ref b15)])
    refine own_by (fun t_ k_ => XS.iconst X18.here hx rfl (hb hby d12_21) k_) ?_
    show own_Go p e below _ T18 (mkF m 22 #[.val (.int p1)] [(.int (0 : Int32)), (.ref r18), (.ref b15), (.ref b15)])
    have A15_19 : Exa Z T18.heap b15 "java/lang/String" := (Exa.keep A15 K18q)
    have F17_20 : Fld Z T18.heap b15 "java/lang/String" "value" "[B" .null := (Fld.keep F17_0 K18q nin0)
    have F16_21 : Fld Z T18.heap b15 "java/lang/String" "coder" "B" (.int (0 : Int32)) := (Fld.keep F16_0 K18q nin0)
    refine own_callC (W := 1) X18 hx hZ (y := (⟨"java/lang/String", "<init>", "([BB)V"⟩ : MethodName)) rfl hown (own_w hw 81 rfl) (own_w hw 82 rfl) (own_w hw 4 rfl) (own_w hw 83 rfl) (by decide) (by rw [hml]; rfl) (argsL := [(.ref r18), (.int (0 : Int32))]) pd_12 rfl (a := b15) (rm15_0 l Z a0 hw [] b15 r18 T18.heap n0 sz18 A15_19 F17_20 F16_21 g_b15) (by decide) (by decide) (Nat.le_of_eq rfl) (by decide) (by decide) (rest := [(.ref b15)]) rfl rfl (hb hby d12_22) ?_
    intro v22 T22 L22 X22 hQ22
    obtain ⟨rfl, N22q, K22q, E22, C22, W22⟩ := hQ22
    have N22 := Fr.app N18 N22q
    have sz22 : n0 ≤ T22.heap.size := Nat.le_trans sz18 K22q.1
    have K22 : Keep h0 T22.heap [] := K18.trans K22q (allS (Or.inr szk_b15) all0)
    show own_Go p e below _ T22 (mkF m 25 #[.val (.int p1)] [(.ref b15)])
    refine own_retR X22 hx hlk Bd.returns rfl rfl rfl (hb hby d12_25) rfl (by decide) (by decide) ?_
    have A18_23 : own_Arr Z T22.heap r18 .byte [(.int (nar .byte p1.toInt8.toInt32))] := (own_Arr.keep A18 K22q (ninS (Ne.symm (Nat.ne_of_lt lt_b15_r18)) nin0))
    exact ⟨b15, rfl, N22, K22, _, _, _, 1, E22, C22, W22, A18_23, rfl, Or.inl rfl, by decide⟩
theorem ef_11 (m : MethodId) (a1 : Addr) : entryFrame m #[(.ref a1)] 1 = mkF m 0 #[.val (.ref a1)] [] := by first | (simp [entryFrame, mkF, argsToLocals, Value.category]; done) | rfl
set_option maxRecDepth 65536 in
set_option maxHeartbeats 40000000 in
theorem rm11 (l : Launch) (Z : State) (a0 : Array Value) (hw : ∀ d ∈ tables_1, d.before a0 Z = true) (ws : List Jvm.Cond) (a1 : Addr) (cd : Int32) (cs : Int32) (h0 : Heap) (n0 : Nat) (Z0 : n0 ≤ h0.size) (S_cs : Sta Z h0 "java/lang/String" "COMPACT_STRINGS" "Z" (.int cs)) (hcs : ¬ cs = 0) (F_1 : Fld Z h0 a1 "java/lang/String" "coder" "B" (.int cd)) (hcd : cd = 0 ∨ cd = 1) :
    MetFree l (⟨"java/lang/String", "coder", "()B"⟩ : MethodName) (head1 (Jvm.Cond.code (⟨"java/lang/String", "coder", "()B"⟩ : MethodName) jdk_42_method_152_code 1 (some .byte) :: ws) ({ frames := 0, cells := 0, slots := 0, locals := 0 } : Room)) (fun a U => a = #[(.ref a1)] ∧ Z.Warmed39 U.vm ∧ U.heap = h0) (fun _ _ _ _ _ => True) (fun _ U o U' => ∃ v L, o = .returned v ∧ QI cd h0 n0 v U'.heap L ∧ FrameEnd U o U' L ({ frames := 0, cells := 0, slots := 0, locals := 0 } : Room).cells ({ frames := 0, cells := 0, slots := 0, locals := 0 } : Room).slots) := by
  refine MetFree.of_bodySF (plainFor_of_name pn_1) hisR ?_
  intro p e s m args below meth c s₁ Bd hml0 hP hK
  obtain ⟨rfl, hZ, hh⟩ := hP
  have hx := Bd.exec
  have hby := Bd.bytes
  have hml : c.maxLocals = 1 := hml0
  have hown : s.vm.findClass "java/lang/String" = some m.cls := findClass_of_methodNamed Bd.named
  have hnm := (name_of_methodNamed Bd.named Bd.method).1
  have hlk : meth.locks = false := BodyLoose.notSynchronized Bd
  have X0 : Stand p l e ({ frames := 0, cells := 0, slots := 0, locals := 0 } : Room) s m #[(.ref a1)] below meth c s₁ [] 0 0 := Stand.of_body Bd
  have e0 : s₁.heap = h0 := by rw [← hh, Bd.state]; rfl
  have N0 := Fr.nil n0
  refine own_start (Q := QI cd h0 n0) (ef_11 m a1) ?_
  show own_Go p e below _ s₁ (mkF m 0 #[.val (.ref a1)] [])
  refine own_getS X0 hx hZ hown (own_w hw 16 rfl) Via.refl e0 S_cs (hb hby d11_0) ?_
  intro T1 X1 e1
  show own_Go p e below _ T1 (mkF m 3 #[.val (.ref a1)] [(.int cs)])
  refine own_if X1 hx 13 (hb hby d11_3) (by decide) (by decide) (fun hc => absurd (show ¬ cs = (0 : Int32) from hcs) (by first | exact hc | exact not_not_intro hc)) (fun _ => ?_)
  show own_Go p e below _ T1 (mkF m 6 #[.val (.ref a1)] [])
  refine own_by (fun t_ k_ => XS.aloadN X1.here hx rfl (hb hby d11_6) rfl rfl k_) ?_
  show own_Go p e below _ T1 (mkF m 7 #[.val (.ref a1)] [(.ref a1)])
  refine own_getF X1 hx hZ hown (own_w hw 28 rfl) Via.refl e1 F_1 (hb hby d11_7) ?_
  intro T2 X2 e2
  show own_Go p e below _ T2 (mkF m 10 #[.val (.ref a1)] [(.int cd)])
  refine own_by (fun t_ k_ => XS.goto X2.here hx rfl (pc0 := 10) (pc' := 14) rfl (hb hby d11_10) (by decide) (by decide) k_) ?_
  show own_Go p e below _ T2 (mkF m 14 #[.val (.ref a1)] [(.int cd)])
  refine own_ret X2 hx hlk Bd.returns (t := .byte) (Or.inl ⟨rfl, by simp, _, rfl⟩) (by rcases hcd with rfl | rfl <;> rfl) (hb hby d11_14) e2 (by decide) (by decide) ?_
  exact ⟨rfl, N0, rfl⟩
theorem ef_10 (m : MethodId) (a1 : Addr) : entryFrame m #[(.ref a1)] 1 = mkF m 0 #[.val (.ref a1)] [] := by first | (simp [entryFrame, mkF, argsToLocals, Value.category]; done) | rfl
set_option maxRecDepth 65536 in
set_option maxHeartbeats 40000000 in
theorem rm10 (l : Launch) (Z : State) (a0 : Array Value) (hw : ∀ d ∈ tables_1, d.before a0 Z = true) (ws : List Jvm.Cond) (a1 : Addr) (t : Addr) (cd : Int32) (cs : Int32) (vs : List Value) (n : Nat) (kk : Int32) (h0 : Heap) (n0 : Nat) (Z0 : n0 ≤ h0.size) (S_cs : Sta Z h0 "java/lang/String" "COMPACT_STRINGS" "Z" (.int cs)) (hcs : ¬ cs = 0) (E_a1 : Exa Z h0 a1 "java/lang/String") (F_c : Fld Z h0 a1 "java/lang/String" "coder" "B" (.int cd)) (F_v : Fld Z h0 a1 "java/lang/String" "value" "[B" (.ref t)) (V_t : own_Arr Z h0 t .byte vs) (hl : vs.length = n) (hcd : cd = 0 ∨ cd = 1) (hk : n.toInt32 >>> (cd &&& 31) = kk) :
    MetFree l (⟨"java/lang/String", "length", "()I"⟩ : MethodName) (head1 (Jvm.Cond.code (⟨"java/lang/String", "length", "()I"⟩ : MethodName) jdk_42_method_54_code 1 (some .int) :: ws) ({ frames := 1, cells := 0, slots := 0, locals := 13 } : Room)) (fun a U => a = #[(.ref a1)] ∧ Z.Warmed39 U.vm ∧ U.heap = h0) (fun _ _ _ _ _ => True) (fun _ U o U' => ∃ v L, o = .returned v ∧ QI kk h0 n0 v U'.heap L ∧ FrameEnd U o U' L ({ frames := 1, cells := 0, slots := 0, locals := 13 } : Room).cells ({ frames := 1, cells := 0, slots := 0, locals := 13 } : Room).slots) := by
  refine MetFree.of_bodySF (plainFor_of_name pn_1) hisR ?_
  intro p e s m args below meth c s₁ Bd hml0 hP hK
  obtain ⟨rfl, hZ, hh⟩ := hP
  have hx := Bd.exec
  have hby := Bd.bytes
  have hml : c.maxLocals = 1 := hml0
  have hown : s.vm.findClass "java/lang/String" = some m.cls := findClass_of_methodNamed Bd.named
  have hnm := (name_of_methodNamed Bd.named Bd.method).1
  have hlk : meth.locks = false := BodyLoose.notSynchronized Bd
  have X0 : Stand p l e ({ frames := 1, cells := 0, slots := 0, locals := 13 } : Room) s m #[(.ref a1)] below meth c s₁ [] 0 0 := Stand.of_body Bd
  have e0 : s₁.heap = h0 := by rw [← hh, Bd.state]; rfl
  have N0 := Fr.nil n0
  refine own_start (Q := QI kk h0 n0) (ef_10 m a1) ?_
  show own_Go p e below _ s₁ (mkF m 0 #[.val (.ref a1)] [])
  refine own_by (fun t_ k_ => XS.aloadN X0.here hx rfl (hb hby d10_0) rfl rfl k_) ?_
  show own_Go p e below _ s₁ (mkF m 1 #[.val (.ref a1)] [(.ref a1)])
  refine own_getF X0 hx hZ hown (own_w hw 30 rfl) Via.refl e0 F_v (hb hby d10_1) ?_
  intro T1 X1 e1
  show own_Go p e below _ T1 (mkF m 4 #[.val (.ref a1)] [(.ref t)])
  refine own_alenK X1 hx hZ e1 V_t n hl rfl (hb hby d10_4) ?_
  show own_Go p e below _ T1 (mkF m 5 #[.val (.ref a1)] [(.int (n).toInt32)])
  refine own_by (fun t_ k_ => XS.aloadN X1.here hx rfl (hb hby d10_5) rfl rfl k_) ?_
  show own_Go p e below _ T1 (mkF m 6 #[.val (.ref a1)] [(.ref a1), (.int (n).toInt32)])
  refine own_callV (W := 1) X1 hx hZ (y := (⟨"java/lang/String", "coder", "()B"⟩ : MethodName)) (z := (⟨"java/lang/String", "coder", "()B"⟩ : MethodName)) hown (own_w hw 65 rfl) (own_w hw 66 rfl) (notFace_of_selects (args := #[]) (mvT hZ (own_w hw 68 rfl))) (own_w hw 68 rfl) (own_w hw 67 rfl) (own_w hw 4 rfl) (own_w hw 69 rfl) (by decide) (by rw [hml]; rfl) (argsL := []) pd_8 rfl (a := a1) e1 E_a1 (rm11 l Z a0 hw [] a1 cd cs h0 n0 Z0 S_cs hcs F_c hcd) (by decide) (by decide) (Nat.le_of_eq rfl) (by decide) (by decide) (rest := [(.int (n).toInt32)]) rfl (hb hby d10_6) ?_
  intro v2 T2 L2 X2 hQ2
  obtain ⟨rfl, N2q, e2⟩ := hQ2
  have N2 := Fr.app N0 N2q
  show own_Go p e below _ T2 (mkF m 9 #[.val (.ref a1)] [(.int cd), (.int (n).toInt32)])
  refine own_by (fun t_ k_ => XT.ishr X2.here hx rfl (hb hby d10_9) rfl k_) ?_
  show own_Go p e below _ T2 (mkF m 10 #[.val (.ref a1)] [(.int ((n).toInt32 >>> (cd &&& 31)))])
  refine own_retI X2 hx hlk Bd.returns (hb hby d10_10) e2 (by decide) (by decide) ?_
  exact ⟨by rw [← hk], N2, rfl⟩
theorem ef_8 (m : MethodId) (a1 : Addr) : entryFrame m #[(.ref a1)] 1 = mkF m 0 #[.val (.ref a1)] [] := by first | (simp [entryFrame, mkF, argsToLocals, Value.category]; done) | rfl
set_option maxRecDepth 65536 in
set_option maxHeartbeats 40000000 in
theorem rm8 (l : Launch) (Z : State) (a0 : Array Value) (hw : ∀ d ∈ tables_1, d.before a0 Z = true) (ws : List Jvm.Cond) (a1 : Addr) (h0 : Heap) (n0 : Nat) (Z0 : n0 ≤ h0.size) :
    MetFree l (⟨"java/lang/Record", "<init>", "()V"⟩ : MethodName) (head1 (Jvm.Cond.code (⟨"java/lang/Record", "<init>", "()V"⟩ : MethodName) jdk_30_method_1_code 1 none :: ws) ({ frames := 1, cells := 0, slots := 0, locals := 12 } : Room)) (fun a U => a = #[(.ref a1)] ∧ Z.Warmed39 U.vm ∧ U.heap = h0) (fun _ _ _ _ _ => True) (fun _ U o U' => ∃ v L, o = .returned v ∧ QN h0 n0 v U'.heap L ∧ FrameEnd U o U' L ({ frames := 1, cells := 0, slots := 0, locals := 12 } : Room).cells ({ frames := 1, cells := 0, slots := 0, locals := 12 } : Room).slots) := by
  refine MetFree.of_bodySF (plainFor_of_name pn_8) hisR ?_
  intro p e s m args below meth c s₁ Bd hml0 hP hK
  obtain ⟨rfl, hZ, hh⟩ := hP
  have hx := Bd.exec
  have hby := Bd.bytes
  have hml : c.maxLocals = 1 := hml0
  have hown : s.vm.findClass "java/lang/Record" = some m.cls := findClass_of_methodNamed Bd.named
  have hnm := (name_of_methodNamed Bd.named Bd.method).1
  have hlk : meth.locks = false := BodyLoose.notSynchronized Bd
  have X0 : Stand p l e ({ frames := 1, cells := 0, slots := 0, locals := 12 } : Room) s m #[(.ref a1)] below meth c s₁ [] 0 0 := Stand.of_body Bd
  have e0 : s₁.heap = h0 := by rw [← hh, Bd.state]; rfl
  have N0 := Fr.nil n0
  refine own_start (Q := QN h0 n0) (ef_8 m a1) ?_
  show own_Go p e below _ s₁ (mkF m 0 #[.val (.ref a1)] [])
  refine own_by (fun t_ k_ => XS.aloadN X0.here hx rfl (hb hby d8_0) rfl rfl k_) ?_
  show own_Go p e below _ s₁ (mkF m 1 #[.val (.ref a1)] [(.ref a1)])
  refine own_initO X0 hx hZ hown (own_w hw 46 rfl) (own_w hw 14 rfl) (own_w hw 15 rfl) e0 (by rw [hml]; rfl) (hb hby d8_1) (by decide) (W := 0) (Nat.le_of_eq rfl) (by decide) ?_
  intro T1 X1 e1
  show own_Go p e below _ T1 (mkF m 4 #[.val (.ref a1)] [])
  refine own_retV X1 hx hlk Bd.returns (hb hby d8_4) e1 (by decide) (by decide) ?_
  exact ⟨rfl, N0, rfl⟩
theorem ef_7 (m : MethodId) (a1 : Addr) (p2 : Int32) (p3 : Int32) (a4 : Addr) (a5 : Addr) : entryFrame m #[(.ref a1), (.int p2), (.int p3), (.ref a4), (.ref a5)] 5 = mkF m 0 #[.val (.ref a1), .val (.int p2), .val (.int p3), .val (.ref a4), .val (.ref a5)] [] := by first | (simp [entryFrame, mkF, argsToLocals, Value.category]; done) | rfl
set_option maxRecDepth 65536 in
set_option maxHeartbeats 40000000 in
theorem rm7 (l : Launch) (Z : State) (a0 : Array Value) (hw : ∀ d ∈ tables_1, d.before a0 Z = true) (ws : List Jvm.Cond) (a1 : Addr) (p2 : Int32) (p3 : Int32) (a4 : Addr) (a5 : Addr) (h0 : Heap) (n0 : Nat) (Z0 : n0 ≤ h0.size) (E_a1 : Exa Z h0 a1 "com/example/restate/restate/Citation") (F_paragraph : Fld Z h0 a1 "com/example/restate/restate/Citation" "paragraph" "I" (.int (0 : Int32))) (F_start : Fld Z h0 a1 "com/example/restate/restate/Citation" "start" "I" (.int (0 : Int32))) (F_label : Fld Z h0 a1 "com/example/restate/restate/Citation" "label" "Ljava/lang/String;" .null) (F_reading : Fld Z h0 a1 "com/example/restate/restate/Citation" "reading" "Lcom/example/restate/restate/Citation$Reading;" .null) (g_a1 : n0 ≤ a1) :
    MetFree l (⟨"com/example/restate/restate/Citation", "<init>", "(IILjava/lang/String;Lcom/example/restate/restate/Citation$Reading;)V"⟩ : MethodName) (head1 (Jvm.Cond.code (⟨"com/example/restate/restate/Citation", "<init>", "(IILjava/lang/String;Lcom/example/restate/restate/Citation$Reading;)V"⟩ : MethodName) prog_8_method_1_code 5 none :: ws) ({ frames := 2, cells := 0, slots := 0, locals := 24 } : Room)) (fun a U => a = #[(.ref a1), (.int p2), (.int p3), (.ref a4), (.ref a5)] ∧ Z.Warmed39 U.vm ∧ U.heap = h0) (fun _ _ _ _ _ => True) (fun _ U o U' => ∃ v L, o = .returned v ∧ Q7 Z a1 a4 p3 h0 n0 v U'.heap L ∧ FrameEnd U o U' L ({ frames := 2, cells := 0, slots := 0, locals := 24 } : Room).cells ({ frames := 2, cells := 0, slots := 0, locals := 24 } : Room).slots) := by
  refine MetFree.of_bodySF (plainFor_of_name pn_7) hisR ?_
  intro p e s m args below meth c s₁ Bd hml0 hP hK
  obtain ⟨rfl, hZ, hh⟩ := hP
  have hx := Bd.exec
  have hby := Bd.bytes
  have hml : c.maxLocals = 5 := hml0
  have hown : s.vm.findClass "com/example/restate/restate/Citation" = some m.cls := findClass_of_methodNamed Bd.named
  have hnm := (name_of_methodNamed Bd.named Bd.method).1
  have hlk : meth.locks = false := BodyLoose.notSynchronized Bd
  have X0 : Stand p l e ({ frames := 2, cells := 0, slots := 0, locals := 24 } : Room) s m #[(.ref a1), (.int p2), (.int p3), (.ref a4), (.ref a5)] below meth c s₁ [] 0 0 := Stand.of_body Bd
  have e0 : s₁.heap = h0 := by rw [← hh, Bd.state]; rfl
  have N0 := Fr.nil n0
  refine own_start (Q := Q7 Z a1 a4 p3 h0 n0) (ef_7 m a1 p2 p3 a4 a5) ?_
  have K0 := Keep.refl h0 [a1]
  show own_Go p e below _ s₁ (mkF m 0 #[.val (.ref a1), .val (.int p2), .val (.int p3), .val (.ref a4), .val (.ref a5)] [])
  refine own_by (fun t_ k_ => XS.aloadN X0.here hx rfl (hb hby d7_0) rfl rfl k_) ?_
  show own_Go p e below _ s₁ (mkF m 1 #[.val (.ref a1), .val (.int p2), .val (.int p3), .val (.ref a4), .val (.ref a5)] [(.ref a1)])
  refine own_callC (W := 0) X0 hx hZ (y := (⟨"java/lang/Record", "<init>", "()V"⟩ : MethodName)) rfl hown (own_w hw 41 rfl) (own_w hw 42 rfl) (own_w hw 44 rfl) (own_w hw 45 rfl) (by decide) (by rw [hml]; rfl) (argsL := []) pd_2 rfl (a := a1) (rm8 l Z a0 hw [] a1 h0 n0 Z0) (by decide) (by decide) (Nat.le_of_eq rfl) (by decide) (by decide) (rest := []) e0 rfl (hb hby d7_1) ?_
  intro v1 T1 L1 X1 hQ1
  obtain ⟨rfl, N1q, e1⟩ := hQ1
  have N1 := Fr.app N0 N1q
  show own_Go p e below _ T1 (mkF m 4 #[.val (.ref a1), .val (.int p2), .val (.int p3), .val (.ref a4), .val (.ref a5)] [])
  refine own_by (fun t_ k_ => XS.aloadN X1.here hx rfl (hb hby d7_4) rfl rfl k_) ?_
  show own_Go p e below _ T1 (mkF m 5 #[.val (.ref a1), .val (.int p2), .val (.int p3), .val (.ref a4), .val (.ref a5)] [(.ref a1)])
  refine own_by (fun t_ k_ => XS.iloadN X1.here hx rfl (hb hby d7_5) rfl k_) ?_
  show own_Go p e below _ T1 (mkF m 6 #[.val (.ref a1), .val (.int p2), .val (.int p3), .val (.ref a4), .val (.ref a5)] [(.int p2), (.ref a1)])
  refine own_putF X1 hx hZ hown (own_w hw 47 rfl) Via.refl e1 F_paragraph E_a1 (Or.inr ⟨(own_w hw 48 rfl), rfl, hnm⟩) (own_w hw 36 rfl) (ty := .int) (by decide) rfl rfl (hb hby d7_6) ?_
  intro T2 h2 X2 e2 W2
  have F2 := Fld.same W2 F_paragraph
  have N2 := Fr.snoc X2 N1 g_a1
  have sz2 : n0 ≤ h2.size := Nat.le_trans Z0 (Keep.of_wr W2).1
  have K2 : Keep h0 h2 [a1] := K0.wr W2 (Or.inl (List.mem_cons_self ..))
  show own_Go p e below _ T2 (mkF m 9 #[.val (.ref a1), .val (.int p2), .val (.int p3), .val (.ref a4), .val (.ref a5)] [])
  refine own_by (fun t_ k_ => XS.aloadN X2.here hx rfl (hb hby d7_9) rfl rfl k_) ?_
  show own_Go p e below _ T2 (mkF m 10 #[.val (.ref a1), .val (.int p2), .val (.int p3), .val (.ref a4), .val (.ref a5)] [(.ref a1)])
  refine own_by (fun t_ k_ => XS.iloadN X2.here hx rfl (hb hby d7_10) rfl k_) ?_
  show own_Go p e below _ T2 (mkF m 11 #[.val (.ref a1), .val (.int p2), .val (.int p3), .val (.ref a4), .val (.ref a5)] [(.int p3), (.ref a1)])
  have F_start_4 : Fld Z h2 a1 "com/example/restate/restate/Citation" "start" "I" (.int (0 : Int32)) := (Fld.other W2 F_start (Or.inr (slot_ne (Or.inr (own_w hw 50 rfl)) (Or.inr (own_w hw 48 rfl)) (by decide) (t := .int) (t' := .int) (by decide) (by decide))))
  have E_a1_5 : Exa Z h2 a1 "com/example/restate/restate/Citation" := (Exa.wr W2 E_a1)
  refine own_putF X2 hx hZ hown (own_w hw 49 rfl) Via.refl e2 F_start_4 E_a1_5 (Or.inr ⟨(own_w hw 50 rfl), rfl, hnm⟩) (own_w hw 36 rfl) (ty := .int) (by decide) rfl rfl (hb hby d7_11) ?_
  intro T3 h3 X3 e3 W3
  have F3 := Fld.same W3 F_start_4
  have N3 := Fr.snoc X3 N2 g_a1
  have sz3 : n0 ≤ h3.size := Nat.le_trans sz2 (Keep.of_wr W3).1
  have K3 : Keep h0 h3 [a1] := K2.wr W3 (Or.inl (List.mem_cons_self ..))
  show own_Go p e below _ T3 (mkF m 14 #[.val (.ref a1), .val (.int p2), .val (.int p3), .val (.ref a4), .val (.ref a5)] [])
  refine own_by (fun t_ k_ => XS.aloadN X3.here hx rfl (hb hby d7_14) rfl rfl k_) ?_
  show own_Go p e below _ T3 (mkF m 15 #[.val (.ref a1), .val (.int p2), .val (.int p3), .val (.ref a4), .val (.ref a5)] [(.ref a1)])
  refine own_by (fun t_ k_ => XS.aloadN X3.here hx rfl (hb hby d7_15) rfl rfl k_) ?_
  show own_Go p e below _ T3 (mkF m 16 #[.val (.ref a1), .val (.int p2), .val (.int p3), .val (.ref a4), .val (.ref a5)] [(.ref a4), (.ref a1)])
  have F_label_7 : Fld Z h3 a1 "com/example/restate/restate/Citation" "label" "Ljava/lang/String;" .null := (Fld.other W3 (Fld.other W2 F_label (Or.inr (slot_ne (Or.inr (own_w hw 52 rfl)) (Or.inr (own_w hw 48 rfl)) (by decide) (t := (.object "java/lang/String")) (t' := .int) (by decide) (by decide)))) (Or.inr (slot_ne (Or.inr (own_w hw 52 rfl)) (Or.inr (own_w hw 50 rfl)) (by decide) (t := (.object "java/lang/String")) (t' := .int) (by decide) (by decide))))
  have E_a1_8 : Exa Z h3 a1 "com/example/restate/restate/Citation" := (Exa.wr W3 E_a1_5)
  refine own_putF X3 hx hZ hown (own_w hw 51 rfl) Via.refl e3 F_label_7 E_a1_8 (Or.inr ⟨(own_w hw 52 rfl), rfl, hnm⟩) (own_w hw 36 rfl) (ty := (.object "java/lang/String")) (by decide) rfl rfl (hb hby d7_16) ?_
  intro T6 h6 X6 e6 W6
  have F6 := Fld.same W6 F_label_7
  have N6 := Fr.snoc X6 N3 g_a1
  have sz6 : n0 ≤ h6.size := Nat.le_trans sz3 (Keep.of_wr W6).1
  have K6 : Keep h0 h6 [a1] := K3.wr W6 (Or.inl (List.mem_cons_self ..))
  show own_Go p e below _ T6 (mkF m 19 #[.val (.ref a1), .val (.int p2), .val (.int p3), .val (.ref a4), .val (.ref a5)] [])
  refine own_by (fun t_ k_ => XS.aloadN X6.here hx rfl (hb hby d7_19) rfl rfl k_) ?_
  show own_Go p e below _ T6 (mkF m 20 #[.val (.ref a1), .val (.int p2), .val (.int p3), .val (.ref a4), .val (.ref a5)] [(.ref a1)])
  refine own_by (fun t_ k_ => XS.aload X6.here hx rfl (hb hby d7_20) rfl rfl k_) ?_
  show own_Go p e below _ T6 (mkF m 22 #[.val (.ref a1), .val (.int p2), .val (.int p3), .val (.ref a4), .val (.ref a5)] [(.ref a5), (.ref a1)])
  have F_reading_10 : Fld Z h6 a1 "com/example/restate/restate/Citation" "reading" "Lcom/example/restate/restate/Citation$Reading;" .null := (Fld.other W6 (Fld.other W3 (Fld.other W2 F_reading (Or.inr (slot_ne (Or.inr (own_w hw 54 rfl)) (Or.inr (own_w hw 48 rfl)) (by decide) (t := (.object "com/example/restate/restate/Citation$Reading")) (t' := .int) (by decide) (by decide)))) (Or.inr (slot_ne (Or.inr (own_w hw 54 rfl)) (Or.inr (own_w hw 50 rfl)) (by decide) (t := (.object "com/example/restate/restate/Citation$Reading")) (t' := .int) (by decide) (by decide)))) (Or.inr (slot_ne (Or.inr (own_w hw 54 rfl)) (Or.inr (own_w hw 52 rfl)) (by decide) (t := (.object "com/example/restate/restate/Citation$Reading")) (t' := (.object "java/lang/String")) (by decide) (by decide))))
  have E_a1_11 : Exa Z h6 a1 "com/example/restate/restate/Citation" := (Exa.wr W6 E_a1_8)
  refine own_putF X6 hx hZ hown (own_w hw 53 rfl) Via.refl e6 F_reading_10 E_a1_11 (Or.inr ⟨(own_w hw 54 rfl), rfl, hnm⟩) (own_w hw 36 rfl) (ty := (.object "com/example/restate/restate/Citation$Reading")) (by decide) rfl rfl (hb hby d7_22) ?_
  intro T9 h9 X9 e9 W9
  have F9 := Fld.same W9 F_reading_10
  have N9 := Fr.snoc X9 N6 g_a1
  have sz9 : n0 ≤ h9.size := Nat.le_trans sz6 (Keep.of_wr W9).1
  have K9 : Keep h0 h9 [a1] := K6.wr W9 (Or.inl (List.mem_cons_self ..))
  show own_Go p e below _ T9 (mkF m 25 #[.val (.ref a1), .val (.int p2), .val (.int p3), .val (.ref a4), .val (.ref a5)] [])
  refine own_retV X9 hx hlk Bd.returns (hb hby d7_25) e9 (by decide) (by decide) ?_
  have E_a1_12 : Exa Z h9 a1 "com/example/restate/restate/Citation" := (Exa.wr W9 E_a1_11)
  have F3_13 : Fld Z h9 a1 "com/example/restate/restate/Citation" "start" "I" (.int p3) := (Fld.other W9 (Fld.other W6 F3 (Or.inr (slot_ne (Or.inr (own_w hw 50 rfl)) (Or.inr (own_w hw 52 rfl)) (by decide) (t := .int) (t' := (.object "java/lang/String")) (by decide) (by decide)))) (Or.inr (slot_ne (Or.inr (own_w hw 50 rfl)) (Or.inr (own_w hw 54 rfl)) (by decide) (t := .int) (t' := (.object "com/example/restate/restate/Citation$Reading")) (by decide) (by decide))))
  have F6_14 : Fld Z h9 a1 "com/example/restate/restate/Citation" "label" "Ljava/lang/String;" (.ref a4) := (Fld.other W9 F6 (Or.inr (slot_ne (Or.inr (own_w hw 52 rfl)) (Or.inr (own_w hw 54 rfl)) (by decide) (t := (.object "java/lang/String")) (t' := (.object "com/example/restate/restate/Citation$Reading")) (by decide) (by decide))))
  exact ⟨rfl, N9, K9, E_a1_12, F3_13, F6_14⟩
theorem ef_9 (m : MethodId) (a1 : Addr) : entryFrame m #[(.ref a1)] 1 = mkF m 0 #[.val (.ref a1)] [] := by first | (simp [entryFrame, mkF, argsToLocals, Value.category]; done) | rfl
set_option maxRecDepth 65536 in
set_option maxHeartbeats 40000000 in
theorem rm9 (l : Launch) (Z : State) (a0 : Array Value) (hw : ∀ d ∈ tables_1, d.before a0 Z = true) (ws : List Jvm.Cond) (a1 : Addr) (p2 : Int32) (lb : Addr) (kk : Int32) (cs : Int32) (h0 : Heap) (n0 : Nat) (Z0 : n0 ≤ h0.size) (S_cs : Sta Z h0 "java/lang/String" "COMPACT_STRINGS" "Z" (.int cs)) (hcs : ¬ cs = 0) (F_s : Fld Z h0 a1 "com/example/restate/restate/Citation" "start" "I" (.int p2)) (F_l : Fld Z h0 a1 "com/example/restate/restate/Citation" "label" "Ljava/lang/String;" (.ref lb)) (HS : own_S Z h0 lb kk) :
    MetFree l (⟨"com/example/restate/restate/Citation", "end", "()I"⟩ : MethodName) (head1 (Jvm.Cond.code (⟨"com/example/restate/restate/Citation", "end", "()I"⟩ : MethodName) prog_8_method_3_code 1 (some .int) :: ws) ({ frames := 2, cells := 0, slots := 0, locals := 26 } : Room)) (fun a U => a = #[(.ref a1)] ∧ Z.Warmed39 U.vm ∧ U.heap = h0) (fun _ _ _ _ _ => True) (fun _ U o U' => ∃ v L, o = .returned v ∧ QI (p2 + kk) h0 n0 v U'.heap L ∧ FrameEnd U o U' L ({ frames := 2, cells := 0, slots := 0, locals := 26 } : Room).cells ({ frames := 2, cells := 0, slots := 0, locals := 26 } : Room).slots) := by
  refine MetFree.of_bodySF (plainFor_of_name pn_7) hisR ?_
  intro p e s m args below meth c s₁ Bd hml0 hP hK
  obtain ⟨rfl, hZ, hh⟩ := hP
  have hx := Bd.exec
  have hby := Bd.bytes
  have hml : c.maxLocals = 1 := hml0
  have hown : s.vm.findClass "com/example/restate/restate/Citation" = some m.cls := findClass_of_methodNamed Bd.named
  have hnm := (name_of_methodNamed Bd.named Bd.method).1
  have hlk : meth.locks = false := BodyLoose.notSynchronized Bd
  have X0 : Stand p l e ({ frames := 2, cells := 0, slots := 0, locals := 26 } : Room) s m #[(.ref a1)] below meth c s₁ [] 0 0 := Stand.of_body Bd
  have e0 : s₁.heap = h0 := by rw [← hh, Bd.state]; rfl
  have N0 := Fr.nil n0
  obtain ⟨t, cd, vs, n, E_lb, C_lb, W_lb, V_lb, hl_lb, hcd_lb, hk_lb⟩ := HS
  refine own_start (Q := QI (p2 + kk) h0 n0) (ef_9 m a1) ?_
  show own_Go p e below _ s₁ (mkF m 0 #[.val (.ref a1)] [])
  refine own_by (fun t_ k_ => XS.aloadN X0.here hx rfl (hb hby d9_0) rfl rfl k_) ?_
  show own_Go p e below _ s₁ (mkF m 1 #[.val (.ref a1)] [(.ref a1)])
  refine own_getF X0 hx hZ hown (own_w hw 49 rfl) Via.refl e0 F_s (hb hby d9_1) ?_
  intro T1 X1 e1
  show own_Go p e below _ T1 (mkF m 4 #[.val (.ref a1)] [(.int p2)])
  refine own_by (fun t_ k_ => XS.aloadN X1.here hx rfl (hb hby d9_4) rfl rfl k_) ?_
  show own_Go p e below _ T1 (mkF m 5 #[.val (.ref a1)] [(.ref a1), (.int p2)])
  refine own_getF X1 hx hZ hown (own_w hw 51 rfl) Via.refl e1 F_l (hb hby d9_5) ?_
  intro T2 X2 e2
  show own_Go p e below _ T2 (mkF m 8 #[.val (.ref a1)] [(.ref lb), (.int p2)])
  refine own_callV (W := 1) X2 hx hZ (y := (⟨"java/lang/String", "length", "()I"⟩ : MethodName)) (z := (⟨"java/lang/String", "length", "()I"⟩ : MethodName)) hown (own_w hw 60 rfl) (own_w hw 61 rfl) (notFace_of_selects (args := #[]) (mvT hZ (own_w hw 63 rfl))) (own_w hw 63 rfl) (own_w hw 62 rfl) (own_w hw 4 rfl) (own_w hw 64 rfl) (by decide) (by rw [hml]; rfl) (argsL := []) pd_7 rfl (a := lb) e2 E_lb (rm10 l Z a0 hw [] lb t cd cs vs n kk h0 n0 Z0 S_cs hcs E_lb C_lb W_lb V_lb hl_lb hcd_lb hk_lb) (by decide) (by decide) (Nat.le_of_eq rfl) (by decide) (by decide) (rest := [(.int p2)]) rfl (hb hby d9_8) ?_
  intro v3 T3 L3 X3 hQ3
  obtain ⟨rfl, N3q, e3⟩ := hQ3
  have N3 := Fr.app N0 N3q
  show own_Go p e below _ T3 (mkF m 11 #[.val (.ref a1)] [(.int kk), (.int p2)])
  refine own_by (fun t_ k_ => XS.iadd X3.here hx rfl (hb hby d9_11) rfl k_) ?_
  show own_Go p e below _ T3 (mkF m 12 #[.val (.ref a1)] [(.int (p2 + kk))])
  refine own_retI X3 hx hlk Bd.returns (hb hby d9_12) e3 (by decide) (by decide) ?_
  exact ⟨rfl, N3, rfl⟩
theorem ef_0 (m : MethodId) (p1 : Int32) (p2 : Int32) (p3 : Int32) (p4 : Int32) (p5 : Int32) (p6 : Int32) : entryFrame m #[(.int p1), (.int p2), (.int p3), (.int p4), (.int p5), (.int p6)] maxLocals = mkF m 0 #[.val (.int p1), .val (.int p2), .val (.int p3), .val (.int p4), .val (.int p5), .val (.int p6), .unset, .unset, .unset, .unset, .unset, .unset, .unset, .unset] [] := by first | (simp [entryFrame, mkF, argsToLocals, Value.category, maxLocals]; done) | rfl
set_option maxRecDepth 65536 in
set_option maxHeartbeats 40000000 in
theorem rm0 (l : Launch) (Z : State) (a0 : Array Value) (hw : ∀ d ∈ tables_1, d.before a0 Z = true) (ws : List Jvm.Cond) (p1 : Int32) (p2 : Int32) (p3 : Int32) (p4 : Int32) (p5 : Int32) (p6 : Int32) (cs : Int32) (a_OWN : Addr) (a_UNCLEAR : Addr) (a_OTHER : Addr) (h0 : Heap) (n0 : Nat) (Z0 : n0 ≤ h0.size) (S_cs : Sta Z h0 "java/lang/String" "COMPACT_STRINGS" "Z" (.int cs)) (hcs : ¬ cs = 0) (S_ad : Sta Z h0 "java/lang/StringUTF16" "$assertionsDisabled" "Z" (.int (1 : Int32))) (S_hb : Sta Z h0 "java/lang/StringUTF16" "HI_BYTE_SHIFT" "I" (.int (0 : Int32))) (S_lb : Sta Z h0 "java/lang/StringUTF16" "LO_BYTE_SHIFT" "I" (.int (8 : Int32))) (S_OWN : Sta Z h0 "com/example/restate/restate/Citation$Reading" "OWN" "Lcom/example/restate/restate/Citation$Reading;" (.ref a_OWN)) (S_UNCLEAR : Sta Z h0 "com/example/restate/restate/Citation$Reading" "UNCLEAR" "Lcom/example/restate/restate/Citation$Reading;" (.ref a_UNCLEAR)) (S_OTHER : Sta Z h0 "com/example/restate/restate/Citation$Reading" "OTHER" "Lcom/example/restate/restate/Citation$Reading;" (.ref a_OTHER)) (hEL : EW Z a0 consts_1) :
    MetFree l x (head1 (Jvm.Cond.code x code maxLocals ret :: ws) room_1) (fun a U => a = #[(.int p1), (.int p2), (.int p3), (.int p4), (.int p5), (.int p6)] ∧ Z.Warmed39 U.vm ∧ U.heap = h0 ∧ CHv Z consts_1 U.vm h0) (fun _ _ _ _ _ => True) (fun _ U o U' => ∃ v L, o = .returned v ∧ Q0 n0 v U'.heap L ∧ ReturnedEndW U o U' L room_1.cells room_1.slots) := by
  refine MetFree.of_bodySF (plainFor_of_name pn_0) hisR ?_
  intro p e s m args below meth c s₁ Bd hml0 hP hK
  obtain ⟨rfl, hZ, hh, hCH⟩ := hP
  have hx := Bd.exec
  have hby := Bd.bytes
  have hml : c.maxLocals = 14 := hml0
  have hown : s.vm.findClass "com/example/restate/restate/CitationEndPinLaw" = some m.cls := findClass_of_methodNamed Bd.named
  have hnm := (name_of_methodNamed Bd.named Bd.method).1
  have hlk : meth.locks = false := BodyLoose.notSynchronized Bd
  have X0 : Stand p l e room_1 (s.setVm s.vm) m #[(.int p1), (.int p2), (.int p3), (.int p4), (.int p5), (.int p6)] below meth c s₁ [] 0 0 := Stand.of_body Bd
  have e0 : s₁.heap = h0 := by rw [← hh, Bd.state]; rfl
  have N0 := Fr.nil n0
  have hS0 : s.Since s.vm 0 := (State.WarmedH.refl s).since 0
  have hk0 : 0 ≤ h0.size := Nat.zero_le _
  have hwS := own_strs hw
  refine own_startW (Q := Q0 n0) (ef_0 m p1 p2 p3 p4 p5 p6) ?_
  show own_Go p e below _ s₁ (mkF m 0 #[.val (.int p1), .val (.int p2), .val (.int p3), .val (.int p4), .val (.int p5), .val (.int p6), .unset, .unset, .unset, .unset, .unset, .unset, .unset, .unset] [])
  refine own_by (fun t_ k_ => XS.iloadN X0.here hx rfl (hb hby at_0) rfl k_) ?_
  show own_Go p e below _ s₁ (mkF m 1 #[.val (.int p1), .val (.int p2), .val (.int p3), .val (.int p4), .val (.int p5), .val (.int p6), .unset, .unset, .unset, .unset, .unset, .unset, .unset, .unset] [(.int p3)])
  refine own_by (fun t_ k_ => X0.ldcInt hx hown (mvT hZ (own_w hw 0 rfl)) (g := (mkF m 1 #[.val (.int p1), .val (.int p2), .val (.int p3), .val (.int p4), .val (.int p5), .val (.int p6), .unset, .unset, .unset, .unset, .unset, .unset, .unset, .unset] [(.int p3)])) rfl (hb hby at_1) _ k_) ?_
  show own_Go p e below _ s₁ (mkF m 3 #[.val (.int p1), .val (.int p2), .val (.int p3), .val (.int p4), .val (.int p5), .val (.int p6), .unset, .unset, .unset, .unset, .unset, .unset, .unset, .unset] [(.int (65535 : Int32)), (.int p3)])
  refine own_by (fun t_ k_ => XS.iand X0.here hx rfl (hb hby at_3) rfl k_) ?_
  show own_Go p e below _ s₁ (mkF m 4 #[.val (.int p1), .val (.int p2), .val (.int p3), .val (.int p4), .val (.int p5), .val (.int p6), .unset, .unset, .unset, .unset, .unset, .unset, .unset, .unset] [(.int (p3 &&& (65535 : Int32)))])
  refine own_by (fun t_ k_ => XT.i2c X0.here hx rfl (hb hby at_4) rfl k_) ?_
  show own_Go p e below _ s₁ (mkF m 5 #[.val (.int p1), .val (.int p2), .val (.int p3), .val (.int p4), .val (.int p5), .val (.int p6), .unset, .unset, .unset, .unset, .unset, .unset, .unset, .unset] [(.int (p3 &&& (65535 : Int32)).toUInt32.toUInt16.toUInt32.toInt32)])
  refine own_by (fun t_ k_ => XS.istore X0.here hx rfl (hb hby at_5) rfl (l' := #[.val (.int p1), .val (.int p2), .val (.int p3), .val (.int p4), .val (.int p5), .val (.int p6), .val (.int (p3 &&& (65535 : Int32)).toUInt32.toUInt16.toUInt32.toInt32), .unset, .unset, .unset, .unset, .unset, .unset, .unset]) rfl k_) ?_
  show own_Go p e below _ s₁ (mkF m 7 #[.val (.int p1), .val (.int p2), .val (.int p3), .val (.int p4), .val (.int p5), .val (.int p6), .val (.int (p3 &&& (65535 : Int32)).toUInt32.toUInt16.toUInt32.toInt32), .unset, .unset, .unset, .unset, .unset, .unset, .unset] [])
  generalize h_ca : (p3 &&& (65535 : Int32)).toUInt32.toUInt16.toUInt32.toInt32 = ca
  have ok_ca : own_Ok ca := h_ca ▸ own_mok p3
  show own_Go p e below _ s₁ (mkF m 7 #[.val (.int p1), .val (.int p2), .val (.int p3), .val (.int p4), .val (.int p5), .val (.int p6), .val (.int ca), .unset, .unset, .unset, .unset, .unset, .unset, .unset] [])
  refine own_by (fun t_ k_ => XS.iloadN X0.here hx rfl (hb hby at_7) rfl k_) ?_
  show own_Go p e below _ s₁ (mkF m 8 #[.val (.int p1), .val (.int p2), .val (.int p3), .val (.int p4), .val (.int p5), .val (.int p6), .val (.int ca), .unset, .unset, .unset, .unset, .unset, .unset, .unset] [(.int p4)])
  refine own_by (fun t_ k_ => X0.ldcInt hx hown (mvT hZ (own_w hw 0 rfl)) (g := (mkF m 8 #[.val (.int p1), .val (.int p2), .val (.int p3), .val (.int p4), .val (.int p5), .val (.int p6), .val (.int ca), .unset, .unset, .unset, .unset, .unset, .unset, .unset] [(.int p4)])) rfl (hb hby at_8) _ k_) ?_
  show own_Go p e below _ s₁ (mkF m 10 #[.val (.int p1), .val (.int p2), .val (.int p3), .val (.int p4), .val (.int p5), .val (.int p6), .val (.int ca), .unset, .unset, .unset, .unset, .unset, .unset, .unset] [(.int (65535 : Int32)), (.int p4)])
  refine own_by (fun t_ k_ => XS.iand X0.here hx rfl (hb hby at_10) rfl k_) ?_
  show own_Go p e below _ s₁ (mkF m 11 #[.val (.int p1), .val (.int p2), .val (.int p3), .val (.int p4), .val (.int p5), .val (.int p6), .val (.int ca), .unset, .unset, .unset, .unset, .unset, .unset, .unset] [(.int (p4 &&& (65535 : Int32)))])
  refine own_by (fun t_ k_ => XT.i2c X0.here hx rfl (hb hby at_11) rfl k_) ?_
  show own_Go p e below _ s₁ (mkF m 12 #[.val (.int p1), .val (.int p2), .val (.int p3), .val (.int p4), .val (.int p5), .val (.int p6), .val (.int ca), .unset, .unset, .unset, .unset, .unset, .unset, .unset] [(.int (p4 &&& (65535 : Int32)).toUInt32.toUInt16.toUInt32.toInt32)])
  refine own_by (fun t_ k_ => XS.istore X0.here hx rfl (hb hby at_12) rfl (l' := #[.val (.int p1), .val (.int p2), .val (.int p3), .val (.int p4), .val (.int p5), .val (.int p6), .val (.int ca), .val (.int (p4 &&& (65535 : Int32)).toUInt32.toUInt16.toUInt32.toInt32), .unset, .unset, .unset, .unset, .unset, .unset]) rfl k_) ?_
  show own_Go p e below _ s₁ (mkF m 14 #[.val (.int p1), .val (.int p2), .val (.int p3), .val (.int p4), .val (.int p5), .val (.int p6), .val (.int ca), .val (.int (p4 &&& (65535 : Int32)).toUInt32.toUInt16.toUInt32.toInt32), .unset, .unset, .unset, .unset, .unset, .unset] [])
  generalize h_cb : (p4 &&& (65535 : Int32)).toUInt32.toUInt16.toUInt32.toInt32 = cb
  have ok_cb : own_Ok cb := h_cb ▸ own_mok p4
  show own_Go p e below _ s₁ (mkF m 14 #[.val (.int p1), .val (.int p2), .val (.int p3), .val (.int p4), .val (.int p5), .val (.int p6), .val (.int ca), .val (.int cb), .unset, .unset, .unset, .unset, .unset, .unset] [])
  refine own_by (fun t_ k_ => XS.iload X0.here hx rfl (hb hby at_14) rfl k_) ?_
  show own_Go p e below _ s₁ (mkF m 16 #[.val (.int p1), .val (.int p2), .val (.int p3), .val (.int p4), .val (.int p5), .val (.int p6), .val (.int ca), .val (.int cb), .unset, .unset, .unset, .unset, .unset, .unset] [(.int p5)])
  refine own_by (fun t_ k_ => X0.ldcInt hx hown (mvT hZ (own_w hw 0 rfl)) (g := (mkF m 16 #[.val (.int p1), .val (.int p2), .val (.int p3), .val (.int p4), .val (.int p5), .val (.int p6), .val (.int ca), .val (.int cb), .unset, .unset, .unset, .unset, .unset, .unset] [(.int p5)])) rfl (hb hby at_16) _ k_) ?_
  show own_Go p e below _ s₁ (mkF m 18 #[.val (.int p1), .val (.int p2), .val (.int p3), .val (.int p4), .val (.int p5), .val (.int p6), .val (.int ca), .val (.int cb), .unset, .unset, .unset, .unset, .unset, .unset] [(.int (65535 : Int32)), (.int p5)])
  refine own_by (fun t_ k_ => XS.iand X0.here hx rfl (hb hby at_18) rfl k_) ?_
  show own_Go p e below _ s₁ (mkF m 19 #[.val (.int p1), .val (.int p2), .val (.int p3), .val (.int p4), .val (.int p5), .val (.int p6), .val (.int ca), .val (.int cb), .unset, .unset, .unset, .unset, .unset, .unset] [(.int (p5 &&& (65535 : Int32)))])
  refine own_by (fun t_ k_ => XT.i2c X0.here hx rfl (hb hby at_19) rfl k_) ?_
  show own_Go p e below _ s₁ (mkF m 20 #[.val (.int p1), .val (.int p2), .val (.int p3), .val (.int p4), .val (.int p5), .val (.int p6), .val (.int ca), .val (.int cb), .unset, .unset, .unset, .unset, .unset, .unset] [(.int (p5 &&& (65535 : Int32)).toUInt32.toUInt16.toUInt32.toInt32)])
  refine own_by (fun t_ k_ => XS.istore X0.here hx rfl (hb hby at_20) rfl (l' := #[.val (.int p1), .val (.int p2), .val (.int p3), .val (.int p4), .val (.int p5), .val (.int p6), .val (.int ca), .val (.int cb), .val (.int (p5 &&& (65535 : Int32)).toUInt32.toUInt16.toUInt32.toInt32), .unset, .unset, .unset, .unset, .unset]) rfl k_) ?_
  show own_Go p e below _ s₁ (mkF m 22 #[.val (.int p1), .val (.int p2), .val (.int p3), .val (.int p4), .val (.int p5), .val (.int p6), .val (.int ca), .val (.int cb), .val (.int (p5 &&& (65535 : Int32)).toUInt32.toUInt16.toUInt32.toInt32), .unset, .unset, .unset, .unset, .unset] [])
  generalize h_cc : (p5 &&& (65535 : Int32)).toUInt32.toUInt16.toUInt32.toInt32 = cc
  have ok_cc : own_Ok cc := h_cc ▸ own_mok p5
  show own_Go p e below _ s₁ (mkF m 22 #[.val (.int p1), .val (.int p2), .val (.int p3), .val (.int p4), .val (.int p5), .val (.int p6), .val (.int ca), .val (.int cb), .val (.int cc), .unset, .unset, .unset, .unset, .unset] [])
  refine own_by (fun t_ k_ => XS.iload X0.here hx rfl (hb hby at_22) rfl k_) ?_
  show own_Go p e below _ s₁ (mkF m 24 #[.val (.int p1), .val (.int p2), .val (.int p3), .val (.int p4), .val (.int p5), .val (.int p6), .val (.int ca), .val (.int cb), .val (.int cc), .unset, .unset, .unset, .unset, .unset] [(.int p6)])
  refine own_by (fun t_ k_ => XS.iconst X0.here hx rfl (hb hby at_24) k_) ?_
  show own_Go p e below _ s₁ (mkF m 25 #[.val (.int p1), .val (.int p2), .val (.int p3), .val (.int p4), .val (.int p5), .val (.int p6), .val (.int ca), .val (.int cb), .val (.int cc), .unset, .unset, .unset, .unset, .unset] [(.int (3 : Int32)), (.int p6)])
  refine own_by (fun t_ k_ => XS.iand X0.here hx rfl (hb hby at_25) rfl k_) ?_
  show own_Go p e below _ s₁ (mkF m 26 #[.val (.int p1), .val (.int p2), .val (.int p3), .val (.int p4), .val (.int p5), .val (.int p6), .val (.int ca), .val (.int cb), .val (.int cc), .unset, .unset, .unset, .unset, .unset] [(.int (p6 &&& (3 : Int32)))])
  refine own_by (fun t_ k_ => XS.istore X0.here hx rfl (hb hby at_26) rfl (l' := #[.val (.int p1), .val (.int p2), .val (.int p3), .val (.int p4), .val (.int p5), .val (.int p6), .val (.int ca), .val (.int cb), .val (.int cc), .val (.int (p6 &&& (3 : Int32))), .unset, .unset, .unset, .unset]) rfl k_) ?_
  show own_Go p e below _ s₁ (mkF m 28 #[.val (.int p1), .val (.int p2), .val (.int p3), .val (.int p4), .val (.int p5), .val (.int p6), .val (.int ca), .val (.int cb), .val (.int cc), .val (.int (p6 &&& (3 : Int32))), .unset, .unset, .unset, .unset] [])
  generalize h_kq : (p6 &&& (3 : Int32)) = kq
  rcases own_l4 (h_kq ▸ (own_m3 _).1) (h_kq ▸ (own_m3 _).2) with rfl | rfl | rfl | rfl
  · show own_Go p e below _ s₁ (mkF m 28 #[.val (.int p1), .val (.int p2), .val (.int p3), .val (.int p4), .val (.int p5), .val (.int p6), .val (.int ca), .val (.int cb), .val (.int cc), .val (.int (0 : Int32)), .unset, .unset, .unset, .unset] [])
    refine own_by (fun t_ k_ => XS.iload X0.here hx rfl (hb hby at_28) rfl k_) ?_
    show own_Go p e below _ s₁ (mkF m 30 #[.val (.int p1), .val (.int p2), .val (.int p3), .val (.int p4), .val (.int p5), .val (.int p6), .val (.int ca), .val (.int cb), .val (.int cc), .val (.int (0 : Int32)), .unset, .unset, .unset, .unset] [(.int p6)])
    refine own_by (fun t_ k_ => XS.iconst X0.here hx rfl (hb hby at_30) k_) ?_
    show own_Go p e below _ s₁ (mkF m 31 #[.val (.int p1), .val (.int p2), .val (.int p3), .val (.int p4), .val (.int p5), .val (.int p6), .val (.int ca), .val (.int cb), .val (.int cc), .val (.int (0 : Int32)), .unset, .unset, .unset, .unset] [(.int (2 : Int32)), (.int p6)])
    refine own_by (fun t_ k_ => XT.iushr X0.here hx rfl (hb hby at_31) rfl k_) ?_
    show own_Go p e below _ s₁ (mkF m 32 #[.val (.int p1), .val (.int p2), .val (.int p3), .val (.int p4), .val (.int p5), .val (.int p6), .val (.int ca), .val (.int cb), .val (.int cc), .val (.int (0 : Int32)), .unset, .unset, .unset, .unset] [(.int (XT.ushr p6 (2 : Int32)))])
    refine own_by (fun t_ k_ => X0.ldcInt hx hown (mvT hZ (own_w hw 1 rfl)) (g := (mkF m 32 #[.val (.int p1), .val (.int p2), .val (.int p3), .val (.int p4), .val (.int p5), .val (.int p6), .val (.int ca), .val (.int cb), .val (.int cc), .val (.int (0 : Int32)), .unset, .unset, .unset, .unset] [(.int (XT.ushr p6 (2 : Int32)))])) rfl (hb hby at_32) _ k_) ?_
    show own_Go p e below _ s₁ (mkF m 34 #[.val (.int p1), .val (.int p2), .val (.int p3), .val (.int p4), .val (.int p5), .val (.int p6), .val (.int ca), .val (.int cb), .val (.int cc), .val (.int (0 : Int32)), .unset, .unset, .unset, .unset] [(.int (2147483647 : Int32)), (.int (XT.ushr p6 (2 : Int32)))])
    refine own_by (fun t_ k_ => XS.iand X0.here hx rfl (hb hby at_34) rfl k_) ?_
    show own_Go p e below _ s₁ (mkF m 35 #[.val (.int p1), .val (.int p2), .val (.int p3), .val (.int p4), .val (.int p5), .val (.int p6), .val (.int ca), .val (.int cb), .val (.int cc), .val (.int (0 : Int32)), .unset, .unset, .unset, .unset] [(.int ((XT.ushr p6 (2 : Int32)) &&& (2147483647 : Int32)))])
    refine own_by (fun t_ k_ => XS.iconst X0.here hx rfl (hb hby at_35) k_) ?_
    show own_Go p e below _ s₁ (mkF m 36 #[.val (.int p1), .val (.int p2), .val (.int p3), .val (.int p4), .val (.int p5), .val (.int p6), .val (.int ca), .val (.int cb), .val (.int cc), .val (.int (0 : Int32)), .unset, .unset, .unset, .unset] [(.int (3 : Int32)), (.int ((XT.ushr p6 (2 : Int32)) &&& (2147483647 : Int32)))])
    refine own_by (fun t_ k_ => iremM X0 hx rfl (hb hby at_36) rfl (by decide) k_) ?_
    show own_Go p e below _ s₁ (mkF m 37 #[.val (.int p1), .val (.int p2), .val (.int p3), .val (.int p4), .val (.int p5), .val (.int p6), .val (.int ca), .val (.int cb), .val (.int cc), .val (.int (0 : Int32)), .unset, .unset, .unset, .unset] [(.int (((XT.ushr p6 (2 : Int32)) &&& (2147483647 : Int32)) % (3 : Int32)))])
    refine own_by (fun t_ k_ => XS.istore X0.here hx rfl (hb hby at_37) rfl (l' := #[.val (.int p1), .val (.int p2), .val (.int p3), .val (.int p4), .val (.int p5), .val (.int p6), .val (.int ca), .val (.int cb), .val (.int cc), .val (.int (0 : Int32)), .val (.int (((XT.ushr p6 (2 : Int32)) &&& (2147483647 : Int32)) % (3 : Int32))), .unset, .unset, .unset]) rfl k_) ?_
    show own_Go p e below _ s₁ (mkF m 39 #[.val (.int p1), .val (.int p2), .val (.int p3), .val (.int p4), .val (.int p5), .val (.int p6), .val (.int ca), .val (.int cb), .val (.int cc), .val (.int (0 : Int32)), .val (.int (((XT.ushr p6 (2 : Int32)) &&& (2147483647 : Int32)) % (3 : Int32))), .unset, .unset, .unset] [])
    generalize h_mq : (((XT.ushr p6 (2 : Int32)) &&& (2147483647 : Int32)) % (3 : Int32)) = mq
    show own_Go p e below _ s₁ (mkF m 39 #[.val (.int p1), .val (.int p2), .val (.int p3), .val (.int p4), .val (.int p5), .val (.int p6), .val (.int ca), .val (.int cb), .val (.int cc), .val (.int (0 : Int32)), .val (.int mq), .unset, .unset, .unset] [])
    refine own_by (fun t_ k_ => XS.iload X0.here hx rfl (hb hby at_39) rfl k_) ?_
    show own_Go p e below _ s₁ (mkF m 41 #[.val (.int p1), .val (.int p2), .val (.int p3), .val (.int p4), .val (.int p5), .val (.int p6), .val (.int ca), .val (.int cb), .val (.int cc), .val (.int (0 : Int32)), .val (.int mq), .unset, .unset, .unset] [(.int (0 : Int32))])
    refine own_if X0 hx 51 (hb hby at_41) (by decide) (by decide) (fun hc => absurd (show (0 : Int32) = (0 : Int32) from by decide) (by first | exact hc | exact not_not_intro hc)) (fun _ => ?_)
    show own_Go p e below _ s₁ (mkF m 44 #[.val (.int p1), .val (.int p2), .val (.int p3), .val (.int p4), .val (.int p5), .val (.int p6), .val (.int ca), .val (.int cb), .val (.int cc), .val (.int (0 : Int32)), .val (.int mq), .unset, .unset, .unset] [])
    refine own_ldcC X0 hx hZ hown (own_w hw 107 rfl) hwS e0 hS0 hk0 hEL (by decide) hCH [] (0 : Int32) (by decide) (by decide) (by decide) (hb hby at_44) 64 (by decide) (by decide) (by decide) (by decide) ?_
    intro b1 T1 h1 k1 d1 X1 e1 E1 hS1 hk1 hZ hown Es1 C1 W1 V1 H1
    have sz1 : n0 ≤ h1.size := Nat.le_trans Z0 E1.1
    have HS : own_S Z h1 b1 0 := ⟨d1, 0, _, 0, Es1, C1, W1, V1, rfl, Or.inl rfl, by decide⟩
    show own_Go p e below _ T1 (mkF m 46 #[.val (.int p1), .val (.int p2), .val (.int p3), .val (.int p4), .val (.int p5), .val (.int p6), .val (.int ca), .val (.int cb), .val (.int cc), .val (.int (0 : Int32)), .val (.int mq), .unset, .unset, .unset] [(.ref b1)])
    refine own_by (fun t_ k_ => XS.astore X1.here hx rfl (hb hby at_46) rfl rfl (l' := #[.val (.int p1), .val (.int p2), .val (.int p3), .val (.int p4), .val (.int p5), .val (.int p6), .val (.int ca), .val (.int cb), .val (.int cc), .val (.int (0 : Int32)), .val (.int mq), .val (.ref b1), .unset, .unset]) rfl k_) ?_
    show own_Go p e below _ T1 (mkF m 48 #[.val (.int p1), .val (.int p2), .val (.int p3), .val (.int p4), .val (.int p5), .val (.int p6), .val (.int ca), .val (.int cb), .val (.int cc), .val (.int (0 : Int32)), .val (.int mq), .val (.ref b1), .unset, .unset] [])
    refine own_by (fun t_ k_ => XS.goto X1.here hx rfl (pc0 := 48) (pc' := 125) rfl (hb hby at_48) (by decide) (by decide) k_) ?_
    show own_Go p e below _ T1 (mkF m 125 #[.val (.int p1), .val (.int p2), .val (.int p3), .val (.int p4), .val (.int p5), .val (.int p6), .val (.int ca), .val (.int cb), .val (.int cc), .val (.int (0 : Int32)), .val (.int mq), .val (.ref b1), .unset, .unset] [])
    refine own_by (fun t_ k_ => XS.iload X1.here hx rfl (hb hby at_125) rfl k_) ?_
    show own_Go p e below _ T1 (mkF m 127 #[.val (.int p1), .val (.int p2), .val (.int p3), .val (.int p4), .val (.int p5), .val (.int p6), .val (.int ca), .val (.int cb), .val (.int cc), .val (.int (0 : Int32)), .val (.int mq), .val (.ref b1), .unset, .unset] [(.int mq)])
    refine own_if X1 hx 138 (hb hby at_127) (by decide) (by decide) (fun (hc127 : ¬ mq = (0 : Int32)) => ?_) (fun (hc127 : mq = (0 : Int32)) => ?_)
    · show own_Go p e below _ T1 (mkF m 138 #[.val (.int p1), .val (.int p2), .val (.int p3), .val (.int p4), .val (.int p5), .val (.int p6), .val (.int ca), .val (.int cb), .val (.int cc), .val (.int (0 : Int32)), .val (.int mq), .val (.ref b1), .unset, .unset] [])
      refine own_by (fun t_ k_ => XS.iload X1.here hx rfl (hb hby at_138) rfl k_) ?_
      show own_Go p e below _ T1 (mkF m 140 #[.val (.int p1), .val (.int p2), .val (.int p3), .val (.int p4), .val (.int p5), .val (.int p6), .val (.int ca), .val (.int cb), .val (.int cc), .val (.int (0 : Int32)), .val (.int mq), .val (.ref b1), .unset, .unset] [(.int mq)])
      refine own_by (fun t_ k_ => XS.iconst X1.here hx rfl (hb hby at_140) k_) ?_
      show own_Go p e below _ T1 (mkF m 141 #[.val (.int p1), .val (.int p2), .val (.int p3), .val (.int p4), .val (.int p5), .val (.int p6), .val (.int ca), .val (.int cb), .val (.int cc), .val (.int (0 : Int32)), .val (.int mq), .val (.ref b1), .unset, .unset] [(.int (1 : Int32)), (.int mq)])
      refine own_icmp X1 hx 152 (hb hby at_141) (by decide) (by decide) (fun (hc141 : ¬ mq = (1 : Int32)) => ?_) (fun (hc141 : mq = (1 : Int32)) => ?_)
      · show own_Go p e below _ T1 (mkF m 152 #[.val (.int p1), .val (.int p2), .val (.int p3), .val (.int p4), .val (.int p5), .val (.int p6), .val (.int ca), .val (.int cb), .val (.int cc), .val (.int (0 : Int32)), .val (.int mq), .val (.ref b1), .unset, .unset] [])
        have S_UNCLEAR_3 : Sta Z h1 "com/example/restate/restate/Citation$Reading" "UNCLEAR" "Lcom/example/restate/restate/Citation$Reading;" (.ref a_UNCLEAR) := (Sta.ext E1 S_UNCLEAR)
        refine own_getS X1 hx hZ hown (own_w hw 84 rfl) Via.refl e1 S_UNCLEAR_3 (hb hby at_152) ?_
        intro T2 X2 e2
        show own_Go p e below _ T2 (mkF m 155 #[.val (.int p1), .val (.int p2), .val (.int p3), .val (.int p4), .val (.int p5), .val (.int p6), .val (.int ca), .val (.int cb), .val (.int cc), .val (.int (0 : Int32)), .val (.int mq), .val (.ref b1), .unset, .unset] [(.ref a_UNCLEAR)])
        refine own_by (fun t_ k_ => XS.astore X2.here hx rfl (hb hby at_155) rfl rfl (l' := #[.val (.int p1), .val (.int p2), .val (.int p3), .val (.int p4), .val (.int p5), .val (.int p6), .val (.int ca), .val (.int cb), .val (.int cc), .val (.int (0 : Int32)), .val (.int mq), .val (.ref b1), .val (.ref a_UNCLEAR), .unset]) rfl k_) ?_
        show own_Go p e below _ T2 (mkF m 157 #[.val (.int p1), .val (.int p2), .val (.int p3), .val (.int p4), .val (.int p5), .val (.int p6), .val (.int ca), .val (.int cb), .val (.int cc), .val (.int (0 : Int32)), .val (.int mq), .val (.ref b1), .val (.ref a_UNCLEAR), .unset] [])
        refine own_newO X2 hx hZ hown (own_w hw 35 rfl) (own_w hw 36 rfl) (own_w hw 37 rfl) e2 (hb hby at_157) (by decide) (by decide) ?_
        intro T4 h4 b4 X4 e4 g4 E4 A4 D4
        have g_b4 : n0 ≤ b4 := Nat.le_trans sz1 (Nat.le_of_eq g4.symm)
        have sz4 : n0 ≤ h4.size := Nat.le_trans sz1 E4.1
        have F5_0 : Fld Z h4 b4 "com/example/restate/restate/Citation" "paragraph" "I" (.int (0 : Int32)) := D4 (Or.inr (own_w hw 48 rfl)) (ty := .int) (by decide)
        have F6_0 : Fld Z h4 b4 "com/example/restate/restate/Citation" "start" "I" (.int (0 : Int32)) := D4 (Or.inr (own_w hw 50 rfl)) (ty := .int) (by decide)
        have F7_0 : Fld Z h4 b4 "com/example/restate/restate/Citation" "label" "Ljava/lang/String;" .null := D4 (Or.inr (own_w hw 52 rfl)) (ty := (.object "java/lang/String")) (by decide)
        have F8_0 : Fld Z h4 b4 "com/example/restate/restate/Citation" "reading" "Lcom/example/restate/restate/Citation$Reading;" .null := D4 (Or.inr (own_w hw 54 rfl)) (ty := (.object "com/example/restate/restate/Citation$Reading")) (by decide)
        show own_Go p e below _ T4 (mkF m 160 #[.val (.int p1), .val (.int p2), .val (.int p3), .val (.int p4), .val (.int p5), .val (.int p6), .val (.int ca), .val (.int cb), .val (.int cc), .val (.int (0 : Int32)), .val (.int mq), .val (.ref b1), .val (.ref a_UNCLEAR), .unset] [(.ref b4)])
        refine own_by (fun t_ k_ => XS.dup X4.here hx rfl (hb hby at_160) rfl rfl k_) ?_
        show own_Go p e below _ T4 (mkF m 161 #[.val (.int p1), .val (.int p2), .val (.int p3), .val (.int p4), .val (.int p5), .val (.int p6), .val (.int ca), .val (.int cb), .val (.int cc), .val (.int (0 : Int32)), .val (.int mq), .val (.ref b1), .val (.ref a_UNCLEAR), .unset] [(.ref b4), (.ref b4)])
        refine own_by (fun t_ k_ => XS.iloadN X4.here hx rfl (hb hby at_161) rfl k_) ?_
        show own_Go p e below _ T4 (mkF m 162 #[.val (.int p1), .val (.int p2), .val (.int p3), .val (.int p4), .val (.int p5), .val (.int p6), .val (.int ca), .val (.int cb), .val (.int cc), .val (.int (0 : Int32)), .val (.int mq), .val (.ref b1), .val (.ref a_UNCLEAR), .unset] [(.int p1), (.ref b4), (.ref b4)])
        refine own_by (fun t_ k_ => XS.iloadN X4.here hx rfl (hb hby at_162) rfl k_) ?_
        show own_Go p e below _ T4 (mkF m 163 #[.val (.int p1), .val (.int p2), .val (.int p3), .val (.int p4), .val (.int p5), .val (.int p6), .val (.int ca), .val (.int cb), .val (.int cc), .val (.int (0 : Int32)), .val (.int mq), .val (.ref b1), .val (.ref a_UNCLEAR), .unset] [(.int p2), (.int p1), (.ref b4), (.ref b4)])
        refine own_by (fun t_ k_ => XS.aload X4.here hx rfl (hb hby at_163) rfl rfl k_) ?_
        show own_Go p e below _ T4 (mkF m 165 #[.val (.int p1), .val (.int p2), .val (.int p3), .val (.int p4), .val (.int p5), .val (.int p6), .val (.int ca), .val (.int cb), .val (.int cc), .val (.int (0 : Int32)), .val (.int mq), .val (.ref b1), .val (.ref a_UNCLEAR), .unset] [(.ref b1), (.int p2), (.int p1), (.ref b4), (.ref b4)])
        refine own_by (fun t_ k_ => XS.aload X4.here hx rfl (hb hby at_165) rfl rfl k_) ?_
        show own_Go p e below _ T4 (mkF m 167 #[.val (.int p1), .val (.int p2), .val (.int p3), .val (.int p4), .val (.int p5), .val (.int p6), .val (.int ca), .val (.int cb), .val (.int cc), .val (.int (0 : Int32)), .val (.int mq), .val (.ref b1), .val (.ref a_UNCLEAR), .unset] [(.ref a_UNCLEAR), (.ref b1), (.int p2), (.int p1), (.ref b4), (.ref b4)])
        have HS1 : own_S Z h4 b1 0 := (own_S.ext HS E4)
        refine own_callC (W := 1) X4 hx hZ (y := (⟨"com/example/restate/restate/Citation", "<init>", "(IILjava/lang/String;Lcom/example/restate/restate/Citation$Reading;)V"⟩ : MethodName)) rfl hown (own_w hw 38 rfl) (own_w hw 39 rfl) (own_w hw 37 rfl) (own_w hw 40 rfl) (by decide) (by rw [hml]; rfl) (argsL := [(.int p1), (.int p2), (.ref b1), (.ref a_UNCLEAR)]) pd_6 rfl (a := b4) (rm7 l Z a0 hw [] b4 p1 p2 b1 a_UNCLEAR h4 n0 sz4 A4 F5_0 F6_0 F7_0 F8_0 g_b4) (by decide) (by decide) (Nat.le_of_eq rfl) (by decide) (by decide) (rest := [(.ref b4)]) e4 rfl (hb hby at_167) ?_
        intro v9 T9 L9 X9 hQ9
        obtain ⟨rfl, N9q, K9q, E9, Fs9, Fl9⟩ := hQ9
        have N9 := Fr.app N0 N9q
        have sz9 : n0 ≤ T9.heap.size := Nat.le_trans sz4 K9q.1
        have HS2 : own_S Z T9.heap b1 0 := HS1.keep K9q A4 (own_w hw 36 rfl) (by decide)
        show own_Go p e below _ T9 (mkF m 170 #[.val (.int p1), .val (.int p2), .val (.int p3), .val (.int p4), .val (.int p5), .val (.int p6), .val (.int ca), .val (.int cb), .val (.int cc), .val (.int (0 : Int32)), .val (.int mq), .val (.ref b1), .val (.ref a_UNCLEAR), .unset] [(.ref b4)])
        refine own_by (fun t_ k_ => XS.astore X9.here hx rfl (hb hby at_170) rfl rfl (l' := #[.val (.int p1), .val (.int p2), .val (.int p3), .val (.int p4), .val (.int p5), .val (.int p6), .val (.int ca), .val (.int cb), .val (.int cc), .val (.int (0 : Int32)), .val (.int mq), .val (.ref b1), .val (.ref a_UNCLEAR), .val (.ref b4)]) rfl k_) ?_
        show own_Go p e below _ T9 (mkF m 172 #[.val (.int p1), .val (.int p2), .val (.int p3), .val (.int p4), .val (.int p5), .val (.int p6), .val (.int ca), .val (.int cb), .val (.int cc), .val (.int (0 : Int32)), .val (.int mq), .val (.ref b1), .val (.ref a_UNCLEAR), .val (.ref b4)] [])
        refine own_by (fun t_ k_ => XS.aload X9.here hx rfl (hb hby at_172) rfl rfl k_) ?_
        show own_Go p e below _ T9 (mkF m 174 #[.val (.int p1), .val (.int p2), .val (.int p3), .val (.int p4), .val (.int p5), .val (.int p6), .val (.int ca), .val (.int cb), .val (.int cc), .val (.int (0 : Int32)), .val (.int mq), .val (.ref b1), .val (.ref a_UNCLEAR), .val (.ref b4)] [(.ref b4)])
        have S_cs_10 : Sta Z T9.heap "java/lang/String" "COMPACT_STRINGS" "Z" (.int cs) := (own_Sta_keep (Sta.ext E4 (Sta.ext E1 S_cs)) K9q (nsS (own_nosE A4) ns0))
        refine own_callV (W := 0) X9 hx hZ (y := (⟨"com/example/restate/restate/Citation", "end", "()I"⟩ : MethodName)) (z := (⟨"com/example/restate/restate/Citation", "end", "()I"⟩ : MethodName)) hown (own_w hw 55 rfl) (own_w hw 56 rfl) (notFace_of_selects (args := #[]) (mvT hZ (own_w hw 58 rfl))) (own_w hw 58 rfl) (own_w hw 57 rfl) (own_w hw 37 rfl) (own_w hw 59 rfl) (by decide) (by rw [hml]; rfl) (argsL := []) pd_7 rfl (a := b4) rfl E9 (rm9 l Z a0 hw [] b4 p2 b1 0 cs T9.heap n0 sz9 S_cs_10 hcs Fs9 Fl9 HS2) (by decide) (by decide) (Nat.le_of_eq rfl) (by decide) (by decide) (rest := []) rfl (hb hby at_174) ?_
        intro v11 T11 L11 X11 hQ11
        obtain ⟨rfl, N11q, e11⟩ := hQ11
        have N11 := Fr.app N9 N11q
        show own_Go p e below _ T11 (mkF m 177 #[.val (.int p1), .val (.int p2), .val (.int p3), .val (.int p4), .val (.int p5), .val (.int p6), .val (.int ca), .val (.int cb), .val (.int cc), .val (.int (0 : Int32)), .val (.int mq), .val (.ref b1), .val (.ref a_UNCLEAR), .val (.ref b4)] [(.int (p2 + (0 : Int32)))])
        refine own_by (fun t_ k_ => XS.iloadN X11.here hx rfl (hb hby at_177) rfl k_) ?_
        show own_Go p e below _ T11 (mkF m 178 #[.val (.int p1), .val (.int p2), .val (.int p3), .val (.int p4), .val (.int p5), .val (.int p6), .val (.int ca), .val (.int cb), .val (.int cc), .val (.int (0 : Int32)), .val (.int mq), .val (.ref b1), .val (.ref a_UNCLEAR), .val (.ref b4)] [(.int p2), (.int (p2 + (0 : Int32)))])
        refine own_by (fun t_ k_ => XS.iload X11.here hx rfl (hb hby at_178) rfl k_) ?_
        show own_Go p e below _ T11 (mkF m 180 #[.val (.int p1), .val (.int p2), .val (.int p3), .val (.int p4), .val (.int p5), .val (.int p6), .val (.int ca), .val (.int cb), .val (.int cc), .val (.int (0 : Int32)), .val (.int mq), .val (.ref b1), .val (.ref a_UNCLEAR), .val (.ref b4)] [(.int (0 : Int32)), (.int p2), (.int (p2 + (0 : Int32)))])
        refine own_by (fun t_ k_ => XS.iadd X11.here hx rfl (hb hby at_180) rfl k_) ?_
        show own_Go p e below _ T11 (mkF m 181 #[.val (.int p1), .val (.int p2), .val (.int p3), .val (.int p4), .val (.int p5), .val (.int p6), .val (.int ca), .val (.int cb), .val (.int cc), .val (.int (0 : Int32)), .val (.int mq), .val (.ref b1), .val (.ref a_UNCLEAR), .val (.ref b4)] [(.int (p2 + (0 : Int32))), (.int (p2 + (0 : Int32)))])
        refine own_icmp X11 hx 188 (hb hby at_181) (by decide) (by decide) (fun hc => absurd (show (p2 + (0 : Int32)) = (p2 + (0 : Int32)) from rfl) (by first | exact hc | exact not_not_intro hc)) (fun _ => ?_)
        show own_Go p e below _ T11 (mkF m 184 #[.val (.int p1), .val (.int p2), .val (.int p3), .val (.int p4), .val (.int p5), .val (.int p6), .val (.int ca), .val (.int cb), .val (.int cc), .val (.int (0 : Int32)), .val (.int mq), .val (.ref b1), .val (.ref a_UNCLEAR), .val (.ref b4)] [])
        refine own_by (fun t_ k_ => XS.iconst X11.here hx rfl (hb hby at_184) k_) ?_
        show own_Go p e below _ T11 (mkF m 185 #[.val (.int p1), .val (.int p2), .val (.int p3), .val (.int p4), .val (.int p5), .val (.int p6), .val (.int ca), .val (.int cb), .val (.int cc), .val (.int (0 : Int32)), .val (.int mq), .val (.ref b1), .val (.ref a_UNCLEAR), .val (.ref b4)] [(.int (1 : Int32))])
        refine own_by (fun t_ k_ => XS.goto X11.here hx rfl (pc0 := 185) (pc' := 189) rfl (hb hby at_185) (by decide) (by decide) k_) ?_
        show own_Go p e below _ T11 (mkF m 189 #[.val (.int p1), .val (.int p2), .val (.int p3), .val (.int p4), .val (.int p5), .val (.int p6), .val (.int ca), .val (.int cb), .val (.int cc), .val (.int (0 : Int32)), .val (.int mq), .val (.ref b1), .val (.ref a_UNCLEAR), .val (.ref b4)] [(.int (1 : Int32))])
        refine own_retZw X11 hx hS1 (Nat.le_trans (Nat.le_trans hk1 E4.1) K9q.1) hlk Bd.returns (by decide) (hb hby at_189) e11 (by decide) (by decide) ?_
        exact ⟨rfl, N11⟩
      · show own_Go p e below _ T1 (mkF m 144 #[.val (.int p1), .val (.int p2), .val (.int p3), .val (.int p4), .val (.int p5), .val (.int p6), .val (.int ca), .val (.int cb), .val (.int cc), .val (.int (0 : Int32)), .val (.int mq), .val (.ref b1), .unset, .unset] [])
        have S_OTHER_13 : Sta Z h1 "com/example/restate/restate/Citation$Reading" "OTHER" "Lcom/example/restate/restate/Citation$Reading;" (.ref a_OTHER) := (Sta.ext E1 S_OTHER)
        refine own_getS X1 hx hZ hown (own_w hw 105 rfl) Via.refl e1 S_OTHER_13 (hb hby at_144) ?_
        intro T12 X12 e12
        show own_Go p e below _ T12 (mkF m 147 #[.val (.int p1), .val (.int p2), .val (.int p3), .val (.int p4), .val (.int p5), .val (.int p6), .val (.int ca), .val (.int cb), .val (.int cc), .val (.int (0 : Int32)), .val (.int mq), .val (.ref b1), .unset, .unset] [(.ref a_OTHER)])
        refine own_by (fun t_ k_ => XS.astore X12.here hx rfl (hb hby at_147) rfl rfl (l' := #[.val (.int p1), .val (.int p2), .val (.int p3), .val (.int p4), .val (.int p5), .val (.int p6), .val (.int ca), .val (.int cb), .val (.int cc), .val (.int (0 : Int32)), .val (.int mq), .val (.ref b1), .val (.ref a_OTHER), .unset]) rfl k_) ?_
        show own_Go p e below _ T12 (mkF m 149 #[.val (.int p1), .val (.int p2), .val (.int p3), .val (.int p4), .val (.int p5), .val (.int p6), .val (.int ca), .val (.int cb), .val (.int cc), .val (.int (0 : Int32)), .val (.int mq), .val (.ref b1), .val (.ref a_OTHER), .unset] [])
        refine own_by (fun t_ k_ => XS.goto X12.here hx rfl (pc0 := 149) (pc' := 157) rfl (hb hby at_149) (by decide) (by decide) k_) ?_
        show own_Go p e below _ T12 (mkF m 157 #[.val (.int p1), .val (.int p2), .val (.int p3), .val (.int p4), .val (.int p5), .val (.int p6), .val (.int ca), .val (.int cb), .val (.int cc), .val (.int (0 : Int32)), .val (.int mq), .val (.ref b1), .val (.ref a_OTHER), .unset] [])
        refine own_newO X12 hx hZ hown (own_w hw 35 rfl) (own_w hw 36 rfl) (own_w hw 37 rfl) e12 (hb hby at_157) (by decide) (by decide) ?_
        intro T14 h14 b14 X14 e14 g14 E14 A14 D14
        have g_b14 : n0 ≤ b14 := Nat.le_trans sz1 (Nat.le_of_eq g14.symm)
        have sz14 : n0 ≤ h14.size := Nat.le_trans sz1 E14.1
        have F15_0 : Fld Z h14 b14 "com/example/restate/restate/Citation" "paragraph" "I" (.int (0 : Int32)) := D14 (Or.inr (own_w hw 48 rfl)) (ty := .int) (by decide)
        have F16_0 : Fld Z h14 b14 "com/example/restate/restate/Citation" "start" "I" (.int (0 : Int32)) := D14 (Or.inr (own_w hw 50 rfl)) (ty := .int) (by decide)
        have F17_0 : Fld Z h14 b14 "com/example/restate/restate/Citation" "label" "Ljava/lang/String;" .null := D14 (Or.inr (own_w hw 52 rfl)) (ty := (.object "java/lang/String")) (by decide)
        have F18_0 : Fld Z h14 b14 "com/example/restate/restate/Citation" "reading" "Lcom/example/restate/restate/Citation$Reading;" .null := D14 (Or.inr (own_w hw 54 rfl)) (ty := (.object "com/example/restate/restate/Citation$Reading")) (by decide)
        show own_Go p e below _ T14 (mkF m 160 #[.val (.int p1), .val (.int p2), .val (.int p3), .val (.int p4), .val (.int p5), .val (.int p6), .val (.int ca), .val (.int cb), .val (.int cc), .val (.int (0 : Int32)), .val (.int mq), .val (.ref b1), .val (.ref a_OTHER), .unset] [(.ref b14)])
        refine own_by (fun t_ k_ => XS.dup X14.here hx rfl (hb hby at_160) rfl rfl k_) ?_
        show own_Go p e below _ T14 (mkF m 161 #[.val (.int p1), .val (.int p2), .val (.int p3), .val (.int p4), .val (.int p5), .val (.int p6), .val (.int ca), .val (.int cb), .val (.int cc), .val (.int (0 : Int32)), .val (.int mq), .val (.ref b1), .val (.ref a_OTHER), .unset] [(.ref b14), (.ref b14)])
        refine own_by (fun t_ k_ => XS.iloadN X14.here hx rfl (hb hby at_161) rfl k_) ?_
        show own_Go p e below _ T14 (mkF m 162 #[.val (.int p1), .val (.int p2), .val (.int p3), .val (.int p4), .val (.int p5), .val (.int p6), .val (.int ca), .val (.int cb), .val (.int cc), .val (.int (0 : Int32)), .val (.int mq), .val (.ref b1), .val (.ref a_OTHER), .unset] [(.int p1), (.ref b14), (.ref b14)])
        refine own_by (fun t_ k_ => XS.iloadN X14.here hx rfl (hb hby at_162) rfl k_) ?_
        show own_Go p e below _ T14 (mkF m 163 #[.val (.int p1), .val (.int p2), .val (.int p3), .val (.int p4), .val (.int p5), .val (.int p6), .val (.int ca), .val (.int cb), .val (.int cc), .val (.int (0 : Int32)), .val (.int mq), .val (.ref b1), .val (.ref a_OTHER), .unset] [(.int p2), (.int p1), (.ref b14), (.ref b14)])
        refine own_by (fun t_ k_ => XS.aload X14.here hx rfl (hb hby at_163) rfl rfl k_) ?_
        show own_Go p e below _ T14 (mkF m 165 #[.val (.int p1), .val (.int p2), .val (.int p3), .val (.int p4), .val (.int p5), .val (.int p6), .val (.int ca), .val (.int cb), .val (.int cc), .val (.int (0 : Int32)), .val (.int mq), .val (.ref b1), .val (.ref a_OTHER), .unset] [(.ref b1), (.int p2), (.int p1), (.ref b14), (.ref b14)])
        refine own_by (fun t_ k_ => XS.aload X14.here hx rfl (hb hby at_165) rfl rfl k_) ?_
        show own_Go p e below _ T14 (mkF m 167 #[.val (.int p1), .val (.int p2), .val (.int p3), .val (.int p4), .val (.int p5), .val (.int p6), .val (.int ca), .val (.int cb), .val (.int cc), .val (.int (0 : Int32)), .val (.int mq), .val (.ref b1), .val (.ref a_OTHER), .unset] [(.ref a_OTHER), (.ref b1), (.int p2), (.int p1), (.ref b14), (.ref b14)])
        have HS1 : own_S Z h14 b1 0 := (own_S.ext HS E14)
        refine own_callC (W := 1) X14 hx hZ (y := (⟨"com/example/restate/restate/Citation", "<init>", "(IILjava/lang/String;Lcom/example/restate/restate/Citation$Reading;)V"⟩ : MethodName)) rfl hown (own_w hw 38 rfl) (own_w hw 39 rfl) (own_w hw 37 rfl) (own_w hw 40 rfl) (by decide) (by rw [hml]; rfl) (argsL := [(.int p1), (.int p2), (.ref b1), (.ref a_OTHER)]) pd_6 rfl (a := b14) (rm7 l Z a0 hw [] b14 p1 p2 b1 a_OTHER h14 n0 sz14 A14 F15_0 F16_0 F17_0 F18_0 g_b14) (by decide) (by decide) (Nat.le_of_eq rfl) (by decide) (by decide) (rest := [(.ref b14)]) e14 rfl (hb hby at_167) ?_
        intro v19 T19 L19 X19 hQ19
        obtain ⟨rfl, N19q, K19q, E19, Fs19, Fl19⟩ := hQ19
        have N19 := Fr.app N0 N19q
        have sz19 : n0 ≤ T19.heap.size := Nat.le_trans sz14 K19q.1
        have HS2 : own_S Z T19.heap b1 0 := HS1.keep K19q A14 (own_w hw 36 rfl) (by decide)
        show own_Go p e below _ T19 (mkF m 170 #[.val (.int p1), .val (.int p2), .val (.int p3), .val (.int p4), .val (.int p5), .val (.int p6), .val (.int ca), .val (.int cb), .val (.int cc), .val (.int (0 : Int32)), .val (.int mq), .val (.ref b1), .val (.ref a_OTHER), .unset] [(.ref b14)])
        refine own_by (fun t_ k_ => XS.astore X19.here hx rfl (hb hby at_170) rfl rfl (l' := #[.val (.int p1), .val (.int p2), .val (.int p3), .val (.int p4), .val (.int p5), .val (.int p6), .val (.int ca), .val (.int cb), .val (.int cc), .val (.int (0 : Int32)), .val (.int mq), .val (.ref b1), .val (.ref a_OTHER), .val (.ref b14)]) rfl k_) ?_
        show own_Go p e below _ T19 (mkF m 172 #[.val (.int p1), .val (.int p2), .val (.int p3), .val (.int p4), .val (.int p5), .val (.int p6), .val (.int ca), .val (.int cb), .val (.int cc), .val (.int (0 : Int32)), .val (.int mq), .val (.ref b1), .val (.ref a_OTHER), .val (.ref b14)] [])
        refine own_by (fun t_ k_ => XS.aload X19.here hx rfl (hb hby at_172) rfl rfl k_) ?_
        show own_Go p e below _ T19 (mkF m 174 #[.val (.int p1), .val (.int p2), .val (.int p3), .val (.int p4), .val (.int p5), .val (.int p6), .val (.int ca), .val (.int cb), .val (.int cc), .val (.int (0 : Int32)), .val (.int mq), .val (.ref b1), .val (.ref a_OTHER), .val (.ref b14)] [(.ref b14)])
        have S_cs_20 : Sta Z T19.heap "java/lang/String" "COMPACT_STRINGS" "Z" (.int cs) := (own_Sta_keep (Sta.ext E14 (Sta.ext E1 S_cs)) K19q (nsS (own_nosE A14) ns0))
        refine own_callV (W := 0) X19 hx hZ (y := (⟨"com/example/restate/restate/Citation", "end", "()I"⟩ : MethodName)) (z := (⟨"com/example/restate/restate/Citation", "end", "()I"⟩ : MethodName)) hown (own_w hw 55 rfl) (own_w hw 56 rfl) (notFace_of_selects (args := #[]) (mvT hZ (own_w hw 58 rfl))) (own_w hw 58 rfl) (own_w hw 57 rfl) (own_w hw 37 rfl) (own_w hw 59 rfl) (by decide) (by rw [hml]; rfl) (argsL := []) pd_7 rfl (a := b14) rfl E19 (rm9 l Z a0 hw [] b14 p2 b1 0 cs T19.heap n0 sz19 S_cs_20 hcs Fs19 Fl19 HS2) (by decide) (by decide) (Nat.le_of_eq rfl) (by decide) (by decide) (rest := []) rfl (hb hby at_174) ?_
        intro v21 T21 L21 X21 hQ21
        obtain ⟨rfl, N21q, e21⟩ := hQ21
        have N21 := Fr.app N19 N21q
        show own_Go p e below _ T21 (mkF m 177 #[.val (.int p1), .val (.int p2), .val (.int p3), .val (.int p4), .val (.int p5), .val (.int p6), .val (.int ca), .val (.int cb), .val (.int cc), .val (.int (0 : Int32)), .val (.int mq), .val (.ref b1), .val (.ref a_OTHER), .val (.ref b14)] [(.int (p2 + (0 : Int32)))])
        refine own_by (fun t_ k_ => XS.iloadN X21.here hx rfl (hb hby at_177) rfl k_) ?_
        show own_Go p e below _ T21 (mkF m 178 #[.val (.int p1), .val (.int p2), .val (.int p3), .val (.int p4), .val (.int p5), .val (.int p6), .val (.int ca), .val (.int cb), .val (.int cc), .val (.int (0 : Int32)), .val (.int mq), .val (.ref b1), .val (.ref a_OTHER), .val (.ref b14)] [(.int p2), (.int (p2 + (0 : Int32)))])
        refine own_by (fun t_ k_ => XS.iload X21.here hx rfl (hb hby at_178) rfl k_) ?_
        show own_Go p e below _ T21 (mkF m 180 #[.val (.int p1), .val (.int p2), .val (.int p3), .val (.int p4), .val (.int p5), .val (.int p6), .val (.int ca), .val (.int cb), .val (.int cc), .val (.int (0 : Int32)), .val (.int mq), .val (.ref b1), .val (.ref a_OTHER), .val (.ref b14)] [(.int (0 : Int32)), (.int p2), (.int (p2 + (0 : Int32)))])
        refine own_by (fun t_ k_ => XS.iadd X21.here hx rfl (hb hby at_180) rfl k_) ?_
        show own_Go p e below _ T21 (mkF m 181 #[.val (.int p1), .val (.int p2), .val (.int p3), .val (.int p4), .val (.int p5), .val (.int p6), .val (.int ca), .val (.int cb), .val (.int cc), .val (.int (0 : Int32)), .val (.int mq), .val (.ref b1), .val (.ref a_OTHER), .val (.ref b14)] [(.int (p2 + (0 : Int32))), (.int (p2 + (0 : Int32)))])
        refine own_icmp X21 hx 188 (hb hby at_181) (by decide) (by decide) (fun hc => absurd (show (p2 + (0 : Int32)) = (p2 + (0 : Int32)) from rfl) (by first | exact hc | exact not_not_intro hc)) (fun _ => ?_)
        show own_Go p e below _ T21 (mkF m 184 #[.val (.int p1), .val (.int p2), .val (.int p3), .val (.int p4), .val (.int p5), .val (.int p6), .val (.int ca), .val (.int cb), .val (.int cc), .val (.int (0 : Int32)), .val (.int mq), .val (.ref b1), .val (.ref a_OTHER), .val (.ref b14)] [])
        refine own_by (fun t_ k_ => XS.iconst X21.here hx rfl (hb hby at_184) k_) ?_
        show own_Go p e below _ T21 (mkF m 185 #[.val (.int p1), .val (.int p2), .val (.int p3), .val (.int p4), .val (.int p5), .val (.int p6), .val (.int ca), .val (.int cb), .val (.int cc), .val (.int (0 : Int32)), .val (.int mq), .val (.ref b1), .val (.ref a_OTHER), .val (.ref b14)] [(.int (1 : Int32))])
        refine own_by (fun t_ k_ => XS.goto X21.here hx rfl (pc0 := 185) (pc' := 189) rfl (hb hby at_185) (by decide) (by decide) k_) ?_
        show own_Go p e below _ T21 (mkF m 189 #[.val (.int p1), .val (.int p2), .val (.int p3), .val (.int p4), .val (.int p5), .val (.int p6), .val (.int ca), .val (.int cb), .val (.int cc), .val (.int (0 : Int32)), .val (.int mq), .val (.ref b1), .val (.ref a_OTHER), .val (.ref b14)] [(.int (1 : Int32))])
        refine own_retZw X21 hx hS1 (Nat.le_trans (Nat.le_trans hk1 E14.1) K19q.1) hlk Bd.returns (by decide) (hb hby at_189) e21 (by decide) (by decide) ?_
        exact ⟨rfl, N21⟩
    · show own_Go p e below _ T1 (mkF m 130 #[.val (.int p1), .val (.int p2), .val (.int p3), .val (.int p4), .val (.int p5), .val (.int p6), .val (.int ca), .val (.int cb), .val (.int cc), .val (.int (0 : Int32)), .val (.int mq), .val (.ref b1), .unset, .unset] [])
      have S_OWN_23 : Sta Z h1 "com/example/restate/restate/Citation$Reading" "OWN" "Lcom/example/restate/restate/Citation$Reading;" (.ref a_OWN) := (Sta.ext E1 S_OWN)
      refine own_getS X1 hx hZ hown (own_w hw 32 rfl) Via.refl e1 S_OWN_23 (hb hby at_130) ?_
      intro T22 X22 e22
      show own_Go p e below _ T22 (mkF m 133 #[.val (.int p1), .val (.int p2), .val (.int p3), .val (.int p4), .val (.int p5), .val (.int p6), .val (.int ca), .val (.int cb), .val (.int cc), .val (.int (0 : Int32)), .val (.int mq), .val (.ref b1), .unset, .unset] [(.ref a_OWN)])
      refine own_by (fun t_ k_ => XS.astore X22.here hx rfl (hb hby at_133) rfl rfl (l' := #[.val (.int p1), .val (.int p2), .val (.int p3), .val (.int p4), .val (.int p5), .val (.int p6), .val (.int ca), .val (.int cb), .val (.int cc), .val (.int (0 : Int32)), .val (.int mq), .val (.ref b1), .val (.ref a_OWN), .unset]) rfl k_) ?_
      show own_Go p e below _ T22 (mkF m 135 #[.val (.int p1), .val (.int p2), .val (.int p3), .val (.int p4), .val (.int p5), .val (.int p6), .val (.int ca), .val (.int cb), .val (.int cc), .val (.int (0 : Int32)), .val (.int mq), .val (.ref b1), .val (.ref a_OWN), .unset] [])
      refine own_by (fun t_ k_ => XS.goto X22.here hx rfl (pc0 := 135) (pc' := 157) rfl (hb hby at_135) (by decide) (by decide) k_) ?_
      show own_Go p e below _ T22 (mkF m 157 #[.val (.int p1), .val (.int p2), .val (.int p3), .val (.int p4), .val (.int p5), .val (.int p6), .val (.int ca), .val (.int cb), .val (.int cc), .val (.int (0 : Int32)), .val (.int mq), .val (.ref b1), .val (.ref a_OWN), .unset] [])
      refine own_newO X22 hx hZ hown (own_w hw 35 rfl) (own_w hw 36 rfl) (own_w hw 37 rfl) e22 (hb hby at_157) (by decide) (by decide) ?_
      intro T24 h24 b24 X24 e24 g24 E24 A24 D24
      have g_b24 : n0 ≤ b24 := Nat.le_trans sz1 (Nat.le_of_eq g24.symm)
      have sz24 : n0 ≤ h24.size := Nat.le_trans sz1 E24.1
      have F25_0 : Fld Z h24 b24 "com/example/restate/restate/Citation" "paragraph" "I" (.int (0 : Int32)) := D24 (Or.inr (own_w hw 48 rfl)) (ty := .int) (by decide)
      have F26_0 : Fld Z h24 b24 "com/example/restate/restate/Citation" "start" "I" (.int (0 : Int32)) := D24 (Or.inr (own_w hw 50 rfl)) (ty := .int) (by decide)
      have F27_0 : Fld Z h24 b24 "com/example/restate/restate/Citation" "label" "Ljava/lang/String;" .null := D24 (Or.inr (own_w hw 52 rfl)) (ty := (.object "java/lang/String")) (by decide)
      have F28_0 : Fld Z h24 b24 "com/example/restate/restate/Citation" "reading" "Lcom/example/restate/restate/Citation$Reading;" .null := D24 (Or.inr (own_w hw 54 rfl)) (ty := (.object "com/example/restate/restate/Citation$Reading")) (by decide)
      show own_Go p e below _ T24 (mkF m 160 #[.val (.int p1), .val (.int p2), .val (.int p3), .val (.int p4), .val (.int p5), .val (.int p6), .val (.int ca), .val (.int cb), .val (.int cc), .val (.int (0 : Int32)), .val (.int mq), .val (.ref b1), .val (.ref a_OWN), .unset] [(.ref b24)])
      refine own_by (fun t_ k_ => XS.dup X24.here hx rfl (hb hby at_160) rfl rfl k_) ?_
      show own_Go p e below _ T24 (mkF m 161 #[.val (.int p1), .val (.int p2), .val (.int p3), .val (.int p4), .val (.int p5), .val (.int p6), .val (.int ca), .val (.int cb), .val (.int cc), .val (.int (0 : Int32)), .val (.int mq), .val (.ref b1), .val (.ref a_OWN), .unset] [(.ref b24), (.ref b24)])
      refine own_by (fun t_ k_ => XS.iloadN X24.here hx rfl (hb hby at_161) rfl k_) ?_
      show own_Go p e below _ T24 (mkF m 162 #[.val (.int p1), .val (.int p2), .val (.int p3), .val (.int p4), .val (.int p5), .val (.int p6), .val (.int ca), .val (.int cb), .val (.int cc), .val (.int (0 : Int32)), .val (.int mq), .val (.ref b1), .val (.ref a_OWN), .unset] [(.int p1), (.ref b24), (.ref b24)])
      refine own_by (fun t_ k_ => XS.iloadN X24.here hx rfl (hb hby at_162) rfl k_) ?_
      show own_Go p e below _ T24 (mkF m 163 #[.val (.int p1), .val (.int p2), .val (.int p3), .val (.int p4), .val (.int p5), .val (.int p6), .val (.int ca), .val (.int cb), .val (.int cc), .val (.int (0 : Int32)), .val (.int mq), .val (.ref b1), .val (.ref a_OWN), .unset] [(.int p2), (.int p1), (.ref b24), (.ref b24)])
      refine own_by (fun t_ k_ => XS.aload X24.here hx rfl (hb hby at_163) rfl rfl k_) ?_
      show own_Go p e below _ T24 (mkF m 165 #[.val (.int p1), .val (.int p2), .val (.int p3), .val (.int p4), .val (.int p5), .val (.int p6), .val (.int ca), .val (.int cb), .val (.int cc), .val (.int (0 : Int32)), .val (.int mq), .val (.ref b1), .val (.ref a_OWN), .unset] [(.ref b1), (.int p2), (.int p1), (.ref b24), (.ref b24)])
      refine own_by (fun t_ k_ => XS.aload X24.here hx rfl (hb hby at_165) rfl rfl k_) ?_
      show own_Go p e below _ T24 (mkF m 167 #[.val (.int p1), .val (.int p2), .val (.int p3), .val (.int p4), .val (.int p5), .val (.int p6), .val (.int ca), .val (.int cb), .val (.int cc), .val (.int (0 : Int32)), .val (.int mq), .val (.ref b1), .val (.ref a_OWN), .unset] [(.ref a_OWN), (.ref b1), (.int p2), (.int p1), (.ref b24), (.ref b24)])
      have HS1 : own_S Z h24 b1 0 := (own_S.ext HS E24)
      refine own_callC (W := 1) X24 hx hZ (y := (⟨"com/example/restate/restate/Citation", "<init>", "(IILjava/lang/String;Lcom/example/restate/restate/Citation$Reading;)V"⟩ : MethodName)) rfl hown (own_w hw 38 rfl) (own_w hw 39 rfl) (own_w hw 37 rfl) (own_w hw 40 rfl) (by decide) (by rw [hml]; rfl) (argsL := [(.int p1), (.int p2), (.ref b1), (.ref a_OWN)]) pd_6 rfl (a := b24) (rm7 l Z a0 hw [] b24 p1 p2 b1 a_OWN h24 n0 sz24 A24 F25_0 F26_0 F27_0 F28_0 g_b24) (by decide) (by decide) (Nat.le_of_eq rfl) (by decide) (by decide) (rest := [(.ref b24)]) e24 rfl (hb hby at_167) ?_
      intro v29 T29 L29 X29 hQ29
      obtain ⟨rfl, N29q, K29q, E29, Fs29, Fl29⟩ := hQ29
      have N29 := Fr.app N0 N29q
      have sz29 : n0 ≤ T29.heap.size := Nat.le_trans sz24 K29q.1
      have HS2 : own_S Z T29.heap b1 0 := HS1.keep K29q A24 (own_w hw 36 rfl) (by decide)
      show own_Go p e below _ T29 (mkF m 170 #[.val (.int p1), .val (.int p2), .val (.int p3), .val (.int p4), .val (.int p5), .val (.int p6), .val (.int ca), .val (.int cb), .val (.int cc), .val (.int (0 : Int32)), .val (.int mq), .val (.ref b1), .val (.ref a_OWN), .unset] [(.ref b24)])
      refine own_by (fun t_ k_ => XS.astore X29.here hx rfl (hb hby at_170) rfl rfl (l' := #[.val (.int p1), .val (.int p2), .val (.int p3), .val (.int p4), .val (.int p5), .val (.int p6), .val (.int ca), .val (.int cb), .val (.int cc), .val (.int (0 : Int32)), .val (.int mq), .val (.ref b1), .val (.ref a_OWN), .val (.ref b24)]) rfl k_) ?_
      show own_Go p e below _ T29 (mkF m 172 #[.val (.int p1), .val (.int p2), .val (.int p3), .val (.int p4), .val (.int p5), .val (.int p6), .val (.int ca), .val (.int cb), .val (.int cc), .val (.int (0 : Int32)), .val (.int mq), .val (.ref b1), .val (.ref a_OWN), .val (.ref b24)] [])
      refine own_by (fun t_ k_ => XS.aload X29.here hx rfl (hb hby at_172) rfl rfl k_) ?_
      show own_Go p e below _ T29 (mkF m 174 #[.val (.int p1), .val (.int p2), .val (.int p3), .val (.int p4), .val (.int p5), .val (.int p6), .val (.int ca), .val (.int cb), .val (.int cc), .val (.int (0 : Int32)), .val (.int mq), .val (.ref b1), .val (.ref a_OWN), .val (.ref b24)] [(.ref b24)])
      have S_cs_30 : Sta Z T29.heap "java/lang/String" "COMPACT_STRINGS" "Z" (.int cs) := (own_Sta_keep (Sta.ext E24 (Sta.ext E1 S_cs)) K29q (nsS (own_nosE A24) ns0))
      refine own_callV (W := 0) X29 hx hZ (y := (⟨"com/example/restate/restate/Citation", "end", "()I"⟩ : MethodName)) (z := (⟨"com/example/restate/restate/Citation", "end", "()I"⟩ : MethodName)) hown (own_w hw 55 rfl) (own_w hw 56 rfl) (notFace_of_selects (args := #[]) (mvT hZ (own_w hw 58 rfl))) (own_w hw 58 rfl) (own_w hw 57 rfl) (own_w hw 37 rfl) (own_w hw 59 rfl) (by decide) (by rw [hml]; rfl) (argsL := []) pd_7 rfl (a := b24) rfl E29 (rm9 l Z a0 hw [] b24 p2 b1 0 cs T29.heap n0 sz29 S_cs_30 hcs Fs29 Fl29 HS2) (by decide) (by decide) (Nat.le_of_eq rfl) (by decide) (by decide) (rest := []) rfl (hb hby at_174) ?_
      intro v31 T31 L31 X31 hQ31
      obtain ⟨rfl, N31q, e31⟩ := hQ31
      have N31 := Fr.app N29 N31q
      show own_Go p e below _ T31 (mkF m 177 #[.val (.int p1), .val (.int p2), .val (.int p3), .val (.int p4), .val (.int p5), .val (.int p6), .val (.int ca), .val (.int cb), .val (.int cc), .val (.int (0 : Int32)), .val (.int mq), .val (.ref b1), .val (.ref a_OWN), .val (.ref b24)] [(.int (p2 + (0 : Int32)))])
      refine own_by (fun t_ k_ => XS.iloadN X31.here hx rfl (hb hby at_177) rfl k_) ?_
      show own_Go p e below _ T31 (mkF m 178 #[.val (.int p1), .val (.int p2), .val (.int p3), .val (.int p4), .val (.int p5), .val (.int p6), .val (.int ca), .val (.int cb), .val (.int cc), .val (.int (0 : Int32)), .val (.int mq), .val (.ref b1), .val (.ref a_OWN), .val (.ref b24)] [(.int p2), (.int (p2 + (0 : Int32)))])
      refine own_by (fun t_ k_ => XS.iload X31.here hx rfl (hb hby at_178) rfl k_) ?_
      show own_Go p e below _ T31 (mkF m 180 #[.val (.int p1), .val (.int p2), .val (.int p3), .val (.int p4), .val (.int p5), .val (.int p6), .val (.int ca), .val (.int cb), .val (.int cc), .val (.int (0 : Int32)), .val (.int mq), .val (.ref b1), .val (.ref a_OWN), .val (.ref b24)] [(.int (0 : Int32)), (.int p2), (.int (p2 + (0 : Int32)))])
      refine own_by (fun t_ k_ => XS.iadd X31.here hx rfl (hb hby at_180) rfl k_) ?_
      show own_Go p e below _ T31 (mkF m 181 #[.val (.int p1), .val (.int p2), .val (.int p3), .val (.int p4), .val (.int p5), .val (.int p6), .val (.int ca), .val (.int cb), .val (.int cc), .val (.int (0 : Int32)), .val (.int mq), .val (.ref b1), .val (.ref a_OWN), .val (.ref b24)] [(.int (p2 + (0 : Int32))), (.int (p2 + (0 : Int32)))])
      refine own_icmp X31 hx 188 (hb hby at_181) (by decide) (by decide) (fun hc => absurd (show (p2 + (0 : Int32)) = (p2 + (0 : Int32)) from rfl) (by first | exact hc | exact not_not_intro hc)) (fun _ => ?_)
      show own_Go p e below _ T31 (mkF m 184 #[.val (.int p1), .val (.int p2), .val (.int p3), .val (.int p4), .val (.int p5), .val (.int p6), .val (.int ca), .val (.int cb), .val (.int cc), .val (.int (0 : Int32)), .val (.int mq), .val (.ref b1), .val (.ref a_OWN), .val (.ref b24)] [])
      refine own_by (fun t_ k_ => XS.iconst X31.here hx rfl (hb hby at_184) k_) ?_
      show own_Go p e below _ T31 (mkF m 185 #[.val (.int p1), .val (.int p2), .val (.int p3), .val (.int p4), .val (.int p5), .val (.int p6), .val (.int ca), .val (.int cb), .val (.int cc), .val (.int (0 : Int32)), .val (.int mq), .val (.ref b1), .val (.ref a_OWN), .val (.ref b24)] [(.int (1 : Int32))])
      refine own_by (fun t_ k_ => XS.goto X31.here hx rfl (pc0 := 185) (pc' := 189) rfl (hb hby at_185) (by decide) (by decide) k_) ?_
      show own_Go p e below _ T31 (mkF m 189 #[.val (.int p1), .val (.int p2), .val (.int p3), .val (.int p4), .val (.int p5), .val (.int p6), .val (.int ca), .val (.int cb), .val (.int cc), .val (.int (0 : Int32)), .val (.int mq), .val (.ref b1), .val (.ref a_OWN), .val (.ref b24)] [(.int (1 : Int32))])
      refine own_retZw X31 hx hS1 (Nat.le_trans (Nat.le_trans hk1 E24.1) K29q.1) hlk Bd.returns (by decide) (hb hby at_189) e31 (by decide) (by decide) ?_
      exact ⟨rfl, N31⟩
  · show own_Go p e below _ s₁ (mkF m 28 #[.val (.int p1), .val (.int p2), .val (.int p3), .val (.int p4), .val (.int p5), .val (.int p6), .val (.int ca), .val (.int cb), .val (.int cc), .val (.int (1 : Int32)), .unset, .unset, .unset, .unset] [])
    refine own_by (fun t_ k_ => XS.iload X0.here hx rfl (hb hby at_28) rfl k_) ?_
    show own_Go p e below _ s₁ (mkF m 30 #[.val (.int p1), .val (.int p2), .val (.int p3), .val (.int p4), .val (.int p5), .val (.int p6), .val (.int ca), .val (.int cb), .val (.int cc), .val (.int (1 : Int32)), .unset, .unset, .unset, .unset] [(.int p6)])
    refine own_by (fun t_ k_ => XS.iconst X0.here hx rfl (hb hby at_30) k_) ?_
    show own_Go p e below _ s₁ (mkF m 31 #[.val (.int p1), .val (.int p2), .val (.int p3), .val (.int p4), .val (.int p5), .val (.int p6), .val (.int ca), .val (.int cb), .val (.int cc), .val (.int (1 : Int32)), .unset, .unset, .unset, .unset] [(.int (2 : Int32)), (.int p6)])
    refine own_by (fun t_ k_ => XT.iushr X0.here hx rfl (hb hby at_31) rfl k_) ?_
    show own_Go p e below _ s₁ (mkF m 32 #[.val (.int p1), .val (.int p2), .val (.int p3), .val (.int p4), .val (.int p5), .val (.int p6), .val (.int ca), .val (.int cb), .val (.int cc), .val (.int (1 : Int32)), .unset, .unset, .unset, .unset] [(.int (XT.ushr p6 (2 : Int32)))])
    refine own_by (fun t_ k_ => X0.ldcInt hx hown (mvT hZ (own_w hw 1 rfl)) (g := (mkF m 32 #[.val (.int p1), .val (.int p2), .val (.int p3), .val (.int p4), .val (.int p5), .val (.int p6), .val (.int ca), .val (.int cb), .val (.int cc), .val (.int (1 : Int32)), .unset, .unset, .unset, .unset] [(.int (XT.ushr p6 (2 : Int32)))])) rfl (hb hby at_32) _ k_) ?_
    show own_Go p e below _ s₁ (mkF m 34 #[.val (.int p1), .val (.int p2), .val (.int p3), .val (.int p4), .val (.int p5), .val (.int p6), .val (.int ca), .val (.int cb), .val (.int cc), .val (.int (1 : Int32)), .unset, .unset, .unset, .unset] [(.int (2147483647 : Int32)), (.int (XT.ushr p6 (2 : Int32)))])
    refine own_by (fun t_ k_ => XS.iand X0.here hx rfl (hb hby at_34) rfl k_) ?_
    show own_Go p e below _ s₁ (mkF m 35 #[.val (.int p1), .val (.int p2), .val (.int p3), .val (.int p4), .val (.int p5), .val (.int p6), .val (.int ca), .val (.int cb), .val (.int cc), .val (.int (1 : Int32)), .unset, .unset, .unset, .unset] [(.int ((XT.ushr p6 (2 : Int32)) &&& (2147483647 : Int32)))])
    refine own_by (fun t_ k_ => XS.iconst X0.here hx rfl (hb hby at_35) k_) ?_
    show own_Go p e below _ s₁ (mkF m 36 #[.val (.int p1), .val (.int p2), .val (.int p3), .val (.int p4), .val (.int p5), .val (.int p6), .val (.int ca), .val (.int cb), .val (.int cc), .val (.int (1 : Int32)), .unset, .unset, .unset, .unset] [(.int (3 : Int32)), (.int ((XT.ushr p6 (2 : Int32)) &&& (2147483647 : Int32)))])
    refine own_by (fun t_ k_ => iremM X0 hx rfl (hb hby at_36) rfl (by decide) k_) ?_
    show own_Go p e below _ s₁ (mkF m 37 #[.val (.int p1), .val (.int p2), .val (.int p3), .val (.int p4), .val (.int p5), .val (.int p6), .val (.int ca), .val (.int cb), .val (.int cc), .val (.int (1 : Int32)), .unset, .unset, .unset, .unset] [(.int (((XT.ushr p6 (2 : Int32)) &&& (2147483647 : Int32)) % (3 : Int32)))])
    refine own_by (fun t_ k_ => XS.istore X0.here hx rfl (hb hby at_37) rfl (l' := #[.val (.int p1), .val (.int p2), .val (.int p3), .val (.int p4), .val (.int p5), .val (.int p6), .val (.int ca), .val (.int cb), .val (.int cc), .val (.int (1 : Int32)), .val (.int (((XT.ushr p6 (2 : Int32)) &&& (2147483647 : Int32)) % (3 : Int32))), .unset, .unset, .unset]) rfl k_) ?_
    show own_Go p e below _ s₁ (mkF m 39 #[.val (.int p1), .val (.int p2), .val (.int p3), .val (.int p4), .val (.int p5), .val (.int p6), .val (.int ca), .val (.int cb), .val (.int cc), .val (.int (1 : Int32)), .val (.int (((XT.ushr p6 (2 : Int32)) &&& (2147483647 : Int32)) % (3 : Int32))), .unset, .unset, .unset] [])
    generalize h_mq : (((XT.ushr p6 (2 : Int32)) &&& (2147483647 : Int32)) % (3 : Int32)) = mq
    show own_Go p e below _ s₁ (mkF m 39 #[.val (.int p1), .val (.int p2), .val (.int p3), .val (.int p4), .val (.int p5), .val (.int p6), .val (.int ca), .val (.int cb), .val (.int cc), .val (.int (1 : Int32)), .val (.int mq), .unset, .unset, .unset] [])
    refine own_by (fun t_ k_ => XS.iload X0.here hx rfl (hb hby at_39) rfl k_) ?_
    show own_Go p e below _ s₁ (mkF m 41 #[.val (.int p1), .val (.int p2), .val (.int p3), .val (.int p4), .val (.int p5), .val (.int p6), .val (.int ca), .val (.int cb), .val (.int cc), .val (.int (1 : Int32)), .val (.int mq), .unset, .unset, .unset] [(.int (1 : Int32))])
    refine own_if X0 hx 51 (hb hby at_41) (by decide) (by decide) (fun _ => ?_) (fun hc => absurd (show ¬ (1 : Int32) = (0 : Int32) from by decide) (by first | exact hc | exact not_not_intro hc))
    show own_Go p e below _ s₁ (mkF m 51 #[.val (.int p1), .val (.int p2), .val (.int p3), .val (.int p4), .val (.int p5), .val (.int p6), .val (.int ca), .val (.int cb), .val (.int cc), .val (.int (1 : Int32)), .val (.int mq), .unset, .unset, .unset] [])
    refine own_by (fun t_ k_ => XS.iload X0.here hx rfl (hb hby at_51) rfl k_) ?_
    show own_Go p e below _ s₁ (mkF m 53 #[.val (.int p1), .val (.int p2), .val (.int p3), .val (.int p4), .val (.int p5), .val (.int p6), .val (.int ca), .val (.int cb), .val (.int cc), .val (.int (1 : Int32)), .val (.int mq), .unset, .unset, .unset] [(.int (1 : Int32))])
    refine own_by (fun t_ k_ => XS.iconst X0.here hx rfl (hb hby at_53) k_) ?_
    show own_Go p e below _ s₁ (mkF m 54 #[.val (.int p1), .val (.int p2), .val (.int p3), .val (.int p4), .val (.int p5), .val (.int p6), .val (.int ca), .val (.int cb), .val (.int cc), .val (.int (1 : Int32)), .val (.int mq), .unset, .unset, .unset] [(.int (1 : Int32)), (.int (1 : Int32))])
    refine own_icmp X0 hx 67 (hb hby at_54) (by decide) (by decide) (fun hc => absurd (show (1 : Int32) = (1 : Int32) from by decide) (by first | exact hc | exact not_not_intro hc)) (fun _ => ?_)
    show own_Go p e below _ s₁ (mkF m 57 #[.val (.int p1), .val (.int p2), .val (.int p3), .val (.int p4), .val (.int p5), .val (.int p6), .val (.int ca), .val (.int cb), .val (.int cc), .val (.int (1 : Int32)), .val (.int mq), .unset, .unset, .unset] [])
    refine own_by (fun t_ k_ => XS.iload X0.here hx rfl (hb hby at_57) rfl k_) ?_
    show own_Go p e below _ s₁ (mkF m 59 #[.val (.int p1), .val (.int p2), .val (.int p3), .val (.int p4), .val (.int p5), .val (.int p6), .val (.int ca), .val (.int cb), .val (.int cc), .val (.int (1 : Int32)), .val (.int mq), .unset, .unset, .unset] [(.int ca)])
    refine own_callS (W := 0) X0 hx hZ (y := (⟨"java/lang/String", "valueOf", "(C)Ljava/lang/String;"⟩ : MethodName)) hown (own_w hw 70 rfl) (own_w hw 71 rfl) (own_w hw 4 rfl) (own_w hw 72 rfl) (by decide) (by rw [hml]; rfl) (argsL := [(.int ca)]) pd_9 rfl (rm12 l Z a0 hw [] ca cs h0 n0 Z0 S_cs hcs S_ad S_hb S_lb) (by decide) (by decide) (Nat.le_of_eq rfl) (by decide) (by decide) (rest := []) e0 rfl (hb hby at_59) ?_
    intro v32 T32 L32 X32 hQ32
    obtain ⟨r32, rfl, N32q, K32q, HS⟩ := hQ32
    have N32 := Fr.app N0 N32q
    have sz32 : n0 ≤ T32.heap.size := Nat.le_trans Z0 K32q.1
    show own_Go p e below _ T32 (mkF m 62 #[.val (.int p1), .val (.int p2), .val (.int p3), .val (.int p4), .val (.int p5), .val (.int p6), .val (.int ca), .val (.int cb), .val (.int cc), .val (.int (1 : Int32)), .val (.int mq), .unset, .unset, .unset] [(.ref r32)])
    refine own_by (fun t_ k_ => XS.astore X32.here hx rfl (hb hby at_62) rfl rfl (l' := #[.val (.int p1), .val (.int p2), .val (.int p3), .val (.int p4), .val (.int p5), .val (.int p6), .val (.int ca), .val (.int cb), .val (.int cc), .val (.int (1 : Int32)), .val (.int mq), .val (.ref r32), .unset, .unset]) rfl k_) ?_
    show own_Go p e below _ T32 (mkF m 64 #[.val (.int p1), .val (.int p2), .val (.int p3), .val (.int p4), .val (.int p5), .val (.int p6), .val (.int ca), .val (.int cb), .val (.int cc), .val (.int (1 : Int32)), .val (.int mq), .val (.ref r32), .unset, .unset] [])
    refine own_by (fun t_ k_ => XS.goto X32.here hx rfl (pc0 := 64) (pc' := 125) rfl (hb hby at_64) (by decide) (by decide) k_) ?_
    show own_Go p e below _ T32 (mkF m 125 #[.val (.int p1), .val (.int p2), .val (.int p3), .val (.int p4), .val (.int p5), .val (.int p6), .val (.int ca), .val (.int cb), .val (.int cc), .val (.int (1 : Int32)), .val (.int mq), .val (.ref r32), .unset, .unset] [])
    refine own_by (fun t_ k_ => XS.iload X32.here hx rfl (hb hby at_125) rfl k_) ?_
    show own_Go p e below _ T32 (mkF m 127 #[.val (.int p1), .val (.int p2), .val (.int p3), .val (.int p4), .val (.int p5), .val (.int p6), .val (.int ca), .val (.int cb), .val (.int cc), .val (.int (1 : Int32)), .val (.int mq), .val (.ref r32), .unset, .unset] [(.int mq)])
    refine own_if X32 hx 138 (hb hby at_127) (by decide) (by decide) (fun (hc127 : ¬ mq = (0 : Int32)) => ?_) (fun (hc127 : mq = (0 : Int32)) => ?_)
    · show own_Go p e below _ T32 (mkF m 138 #[.val (.int p1), .val (.int p2), .val (.int p3), .val (.int p4), .val (.int p5), .val (.int p6), .val (.int ca), .val (.int cb), .val (.int cc), .val (.int (1 : Int32)), .val (.int mq), .val (.ref r32), .unset, .unset] [])
      refine own_by (fun t_ k_ => XS.iload X32.here hx rfl (hb hby at_138) rfl k_) ?_
      show own_Go p e below _ T32 (mkF m 140 #[.val (.int p1), .val (.int p2), .val (.int p3), .val (.int p4), .val (.int p5), .val (.int p6), .val (.int ca), .val (.int cb), .val (.int cc), .val (.int (1 : Int32)), .val (.int mq), .val (.ref r32), .unset, .unset] [(.int mq)])
      refine own_by (fun t_ k_ => XS.iconst X32.here hx rfl (hb hby at_140) k_) ?_
      show own_Go p e below _ T32 (mkF m 141 #[.val (.int p1), .val (.int p2), .val (.int p3), .val (.int p4), .val (.int p5), .val (.int p6), .val (.int ca), .val (.int cb), .val (.int cc), .val (.int (1 : Int32)), .val (.int mq), .val (.ref r32), .unset, .unset] [(.int (1 : Int32)), (.int mq)])
      refine own_icmp X32 hx 152 (hb hby at_141) (by decide) (by decide) (fun (hc141 : ¬ mq = (1 : Int32)) => ?_) (fun (hc141 : mq = (1 : Int32)) => ?_)
      · show own_Go p e below _ T32 (mkF m 152 #[.val (.int p1), .val (.int p2), .val (.int p3), .val (.int p4), .val (.int p5), .val (.int p6), .val (.int ca), .val (.int cb), .val (.int cc), .val (.int (1 : Int32)), .val (.int mq), .val (.ref r32), .unset, .unset] [])
        have S_UNCLEAR_34 : Sta Z T32.heap "com/example/restate/restate/Citation$Reading" "UNCLEAR" "Lcom/example/restate/restate/Citation$Reading;" (.ref a_UNCLEAR) := (own_Sta_keep S_UNCLEAR K32q ns0)
        refine own_getS X32 hx hZ hown (own_w hw 84 rfl) Via.refl rfl S_UNCLEAR_34 (hb hby at_152) ?_
        intro T33 X33 e33
        show own_Go p e below _ T33 (mkF m 155 #[.val (.int p1), .val (.int p2), .val (.int p3), .val (.int p4), .val (.int p5), .val (.int p6), .val (.int ca), .val (.int cb), .val (.int cc), .val (.int (1 : Int32)), .val (.int mq), .val (.ref r32), .unset, .unset] [(.ref a_UNCLEAR)])
        refine own_by (fun t_ k_ => XS.astore X33.here hx rfl (hb hby at_155) rfl rfl (l' := #[.val (.int p1), .val (.int p2), .val (.int p3), .val (.int p4), .val (.int p5), .val (.int p6), .val (.int ca), .val (.int cb), .val (.int cc), .val (.int (1 : Int32)), .val (.int mq), .val (.ref r32), .val (.ref a_UNCLEAR), .unset]) rfl k_) ?_
        show own_Go p e below _ T33 (mkF m 157 #[.val (.int p1), .val (.int p2), .val (.int p3), .val (.int p4), .val (.int p5), .val (.int p6), .val (.int ca), .val (.int cb), .val (.int cc), .val (.int (1 : Int32)), .val (.int mq), .val (.ref r32), .val (.ref a_UNCLEAR), .unset] [])
        refine own_newO X33 hx hZ hown (own_w hw 35 rfl) (own_w hw 36 rfl) (own_w hw 37 rfl) e33 (hb hby at_157) (by decide) (by decide) ?_
        intro T35 h35 b35 X35 e35 g35 E35 A35 D35
        have g_b35 : n0 ≤ b35 := Nat.le_trans sz32 (Nat.le_of_eq g35.symm)
        have sz35 : n0 ≤ h35.size := Nat.le_trans sz32 E35.1
        have F36_0 : Fld Z h35 b35 "com/example/restate/restate/Citation" "paragraph" "I" (.int (0 : Int32)) := D35 (Or.inr (own_w hw 48 rfl)) (ty := .int) (by decide)
        have F37_0 : Fld Z h35 b35 "com/example/restate/restate/Citation" "start" "I" (.int (0 : Int32)) := D35 (Or.inr (own_w hw 50 rfl)) (ty := .int) (by decide)
        have F38_0 : Fld Z h35 b35 "com/example/restate/restate/Citation" "label" "Ljava/lang/String;" .null := D35 (Or.inr (own_w hw 52 rfl)) (ty := (.object "java/lang/String")) (by decide)
        have F39_0 : Fld Z h35 b35 "com/example/restate/restate/Citation" "reading" "Lcom/example/restate/restate/Citation$Reading;" .null := D35 (Or.inr (own_w hw 54 rfl)) (ty := (.object "com/example/restate/restate/Citation$Reading")) (by decide)
        show own_Go p e below _ T35 (mkF m 160 #[.val (.int p1), .val (.int p2), .val (.int p3), .val (.int p4), .val (.int p5), .val (.int p6), .val (.int ca), .val (.int cb), .val (.int cc), .val (.int (1 : Int32)), .val (.int mq), .val (.ref r32), .val (.ref a_UNCLEAR), .unset] [(.ref b35)])
        refine own_by (fun t_ k_ => XS.dup X35.here hx rfl (hb hby at_160) rfl rfl k_) ?_
        show own_Go p e below _ T35 (mkF m 161 #[.val (.int p1), .val (.int p2), .val (.int p3), .val (.int p4), .val (.int p5), .val (.int p6), .val (.int ca), .val (.int cb), .val (.int cc), .val (.int (1 : Int32)), .val (.int mq), .val (.ref r32), .val (.ref a_UNCLEAR), .unset] [(.ref b35), (.ref b35)])
        refine own_by (fun t_ k_ => XS.iloadN X35.here hx rfl (hb hby at_161) rfl k_) ?_
        show own_Go p e below _ T35 (mkF m 162 #[.val (.int p1), .val (.int p2), .val (.int p3), .val (.int p4), .val (.int p5), .val (.int p6), .val (.int ca), .val (.int cb), .val (.int cc), .val (.int (1 : Int32)), .val (.int mq), .val (.ref r32), .val (.ref a_UNCLEAR), .unset] [(.int p1), (.ref b35), (.ref b35)])
        refine own_by (fun t_ k_ => XS.iloadN X35.here hx rfl (hb hby at_162) rfl k_) ?_
        show own_Go p e below _ T35 (mkF m 163 #[.val (.int p1), .val (.int p2), .val (.int p3), .val (.int p4), .val (.int p5), .val (.int p6), .val (.int ca), .val (.int cb), .val (.int cc), .val (.int (1 : Int32)), .val (.int mq), .val (.ref r32), .val (.ref a_UNCLEAR), .unset] [(.int p2), (.int p1), (.ref b35), (.ref b35)])
        refine own_by (fun t_ k_ => XS.aload X35.here hx rfl (hb hby at_163) rfl rfl k_) ?_
        show own_Go p e below _ T35 (mkF m 165 #[.val (.int p1), .val (.int p2), .val (.int p3), .val (.int p4), .val (.int p5), .val (.int p6), .val (.int ca), .val (.int cb), .val (.int cc), .val (.int (1 : Int32)), .val (.int mq), .val (.ref r32), .val (.ref a_UNCLEAR), .unset] [(.ref r32), (.int p2), (.int p1), (.ref b35), (.ref b35)])
        refine own_by (fun t_ k_ => XS.aload X35.here hx rfl (hb hby at_165) rfl rfl k_) ?_
        show own_Go p e below _ T35 (mkF m 167 #[.val (.int p1), .val (.int p2), .val (.int p3), .val (.int p4), .val (.int p5), .val (.int p6), .val (.int ca), .val (.int cb), .val (.int cc), .val (.int (1 : Int32)), .val (.int mq), .val (.ref r32), .val (.ref a_UNCLEAR), .unset] [(.ref a_UNCLEAR), (.ref r32), (.int p2), (.int p1), (.ref b35), (.ref b35)])
        have HS1 : own_S Z h35 r32 1 := (own_S.ext HS E35)
        refine own_callC (W := 1) X35 hx hZ (y := (⟨"com/example/restate/restate/Citation", "<init>", "(IILjava/lang/String;Lcom/example/restate/restate/Citation$Reading;)V"⟩ : MethodName)) rfl hown (own_w hw 38 rfl) (own_w hw 39 rfl) (own_w hw 37 rfl) (own_w hw 40 rfl) (by decide) (by rw [hml]; rfl) (argsL := [(.int p1), (.int p2), (.ref r32), (.ref a_UNCLEAR)]) pd_6 rfl (a := b35) (rm7 l Z a0 hw [] b35 p1 p2 r32 a_UNCLEAR h35 n0 sz35 A35 F36_0 F37_0 F38_0 F39_0 g_b35) (by decide) (by decide) (Nat.le_of_eq rfl) (by decide) (by decide) (rest := [(.ref b35)]) e35 rfl (hb hby at_167) ?_
        intro v40 T40 L40 X40 hQ40
        obtain ⟨rfl, N40q, K40q, E40, Fs40, Fl40⟩ := hQ40
        have N40 := Fr.app N32 N40q
        have sz40 : n0 ≤ T40.heap.size := Nat.le_trans sz35 K40q.1
        have HS2 : own_S Z T40.heap r32 1 := HS1.keep K40q A35 (own_w hw 36 rfl) (by decide)
        show own_Go p e below _ T40 (mkF m 170 #[.val (.int p1), .val (.int p2), .val (.int p3), .val (.int p4), .val (.int p5), .val (.int p6), .val (.int ca), .val (.int cb), .val (.int cc), .val (.int (1 : Int32)), .val (.int mq), .val (.ref r32), .val (.ref a_UNCLEAR), .unset] [(.ref b35)])
        refine own_by (fun t_ k_ => XS.astore X40.here hx rfl (hb hby at_170) rfl rfl (l' := #[.val (.int p1), .val (.int p2), .val (.int p3), .val (.int p4), .val (.int p5), .val (.int p6), .val (.int ca), .val (.int cb), .val (.int cc), .val (.int (1 : Int32)), .val (.int mq), .val (.ref r32), .val (.ref a_UNCLEAR), .val (.ref b35)]) rfl k_) ?_
        show own_Go p e below _ T40 (mkF m 172 #[.val (.int p1), .val (.int p2), .val (.int p3), .val (.int p4), .val (.int p5), .val (.int p6), .val (.int ca), .val (.int cb), .val (.int cc), .val (.int (1 : Int32)), .val (.int mq), .val (.ref r32), .val (.ref a_UNCLEAR), .val (.ref b35)] [])
        refine own_by (fun t_ k_ => XS.aload X40.here hx rfl (hb hby at_172) rfl rfl k_) ?_
        show own_Go p e below _ T40 (mkF m 174 #[.val (.int p1), .val (.int p2), .val (.int p3), .val (.int p4), .val (.int p5), .val (.int p6), .val (.int ca), .val (.int cb), .val (.int cc), .val (.int (1 : Int32)), .val (.int mq), .val (.ref r32), .val (.ref a_UNCLEAR), .val (.ref b35)] [(.ref b35)])
        have S_cs_41 : Sta Z T40.heap "java/lang/String" "COMPACT_STRINGS" "Z" (.int cs) := (own_Sta_keep (Sta.ext E35 (own_Sta_keep S_cs K32q ns0)) K40q (nsS (own_nosE A35) ns0))
        refine own_callV (W := 0) X40 hx hZ (y := (⟨"com/example/restate/restate/Citation", "end", "()I"⟩ : MethodName)) (z := (⟨"com/example/restate/restate/Citation", "end", "()I"⟩ : MethodName)) hown (own_w hw 55 rfl) (own_w hw 56 rfl) (notFace_of_selects (args := #[]) (mvT hZ (own_w hw 58 rfl))) (own_w hw 58 rfl) (own_w hw 57 rfl) (own_w hw 37 rfl) (own_w hw 59 rfl) (by decide) (by rw [hml]; rfl) (argsL := []) pd_7 rfl (a := b35) rfl E40 (rm9 l Z a0 hw [] b35 p2 r32 1 cs T40.heap n0 sz40 S_cs_41 hcs Fs40 Fl40 HS2) (by decide) (by decide) (Nat.le_of_eq rfl) (by decide) (by decide) (rest := []) rfl (hb hby at_174) ?_
        intro v42 T42 L42 X42 hQ42
        obtain ⟨rfl, N42q, e42⟩ := hQ42
        have N42 := Fr.app N40 N42q
        show own_Go p e below _ T42 (mkF m 177 #[.val (.int p1), .val (.int p2), .val (.int p3), .val (.int p4), .val (.int p5), .val (.int p6), .val (.int ca), .val (.int cb), .val (.int cc), .val (.int (1 : Int32)), .val (.int mq), .val (.ref r32), .val (.ref a_UNCLEAR), .val (.ref b35)] [(.int (p2 + (1 : Int32)))])
        refine own_by (fun t_ k_ => XS.iloadN X42.here hx rfl (hb hby at_177) rfl k_) ?_
        show own_Go p e below _ T42 (mkF m 178 #[.val (.int p1), .val (.int p2), .val (.int p3), .val (.int p4), .val (.int p5), .val (.int p6), .val (.int ca), .val (.int cb), .val (.int cc), .val (.int (1 : Int32)), .val (.int mq), .val (.ref r32), .val (.ref a_UNCLEAR), .val (.ref b35)] [(.int p2), (.int (p2 + (1 : Int32)))])
        refine own_by (fun t_ k_ => XS.iload X42.here hx rfl (hb hby at_178) rfl k_) ?_
        show own_Go p e below _ T42 (mkF m 180 #[.val (.int p1), .val (.int p2), .val (.int p3), .val (.int p4), .val (.int p5), .val (.int p6), .val (.int ca), .val (.int cb), .val (.int cc), .val (.int (1 : Int32)), .val (.int mq), .val (.ref r32), .val (.ref a_UNCLEAR), .val (.ref b35)] [(.int (1 : Int32)), (.int p2), (.int (p2 + (1 : Int32)))])
        refine own_by (fun t_ k_ => XS.iadd X42.here hx rfl (hb hby at_180) rfl k_) ?_
        show own_Go p e below _ T42 (mkF m 181 #[.val (.int p1), .val (.int p2), .val (.int p3), .val (.int p4), .val (.int p5), .val (.int p6), .val (.int ca), .val (.int cb), .val (.int cc), .val (.int (1 : Int32)), .val (.int mq), .val (.ref r32), .val (.ref a_UNCLEAR), .val (.ref b35)] [(.int (p2 + (1 : Int32))), (.int (p2 + (1 : Int32)))])
        refine own_icmp X42 hx 188 (hb hby at_181) (by decide) (by decide) (fun hc => absurd (show (p2 + (1 : Int32)) = (p2 + (1 : Int32)) from rfl) (by first | exact hc | exact not_not_intro hc)) (fun _ => ?_)
        show own_Go p e below _ T42 (mkF m 184 #[.val (.int p1), .val (.int p2), .val (.int p3), .val (.int p4), .val (.int p5), .val (.int p6), .val (.int ca), .val (.int cb), .val (.int cc), .val (.int (1 : Int32)), .val (.int mq), .val (.ref r32), .val (.ref a_UNCLEAR), .val (.ref b35)] [])
        refine own_by (fun t_ k_ => XS.iconst X42.here hx rfl (hb hby at_184) k_) ?_
        show own_Go p e below _ T42 (mkF m 185 #[.val (.int p1), .val (.int p2), .val (.int p3), .val (.int p4), .val (.int p5), .val (.int p6), .val (.int ca), .val (.int cb), .val (.int cc), .val (.int (1 : Int32)), .val (.int mq), .val (.ref r32), .val (.ref a_UNCLEAR), .val (.ref b35)] [(.int (1 : Int32))])
        refine own_by (fun t_ k_ => XS.goto X42.here hx rfl (pc0 := 185) (pc' := 189) rfl (hb hby at_185) (by decide) (by decide) k_) ?_
        show own_Go p e below _ T42 (mkF m 189 #[.val (.int p1), .val (.int p2), .val (.int p3), .val (.int p4), .val (.int p5), .val (.int p6), .val (.int ca), .val (.int cb), .val (.int cc), .val (.int (1 : Int32)), .val (.int mq), .val (.ref r32), .val (.ref a_UNCLEAR), .val (.ref b35)] [(.int (1 : Int32))])
        refine own_retZw X42 hx hS0 (Nat.le_trans (Nat.le_trans (Nat.le_trans hk0 K32q.1) E35.1) K40q.1) hlk Bd.returns (by decide) (hb hby at_189) e42 (by decide) (by decide) ?_
        exact ⟨rfl, N42⟩
      · show own_Go p e below _ T32 (mkF m 144 #[.val (.int p1), .val (.int p2), .val (.int p3), .val (.int p4), .val (.int p5), .val (.int p6), .val (.int ca), .val (.int cb), .val (.int cc), .val (.int (1 : Int32)), .val (.int mq), .val (.ref r32), .unset, .unset] [])
        have S_OTHER_44 : Sta Z T32.heap "com/example/restate/restate/Citation$Reading" "OTHER" "Lcom/example/restate/restate/Citation$Reading;" (.ref a_OTHER) := (own_Sta_keep S_OTHER K32q ns0)
        refine own_getS X32 hx hZ hown (own_w hw 105 rfl) Via.refl rfl S_OTHER_44 (hb hby at_144) ?_
        intro T43 X43 e43
        show own_Go p e below _ T43 (mkF m 147 #[.val (.int p1), .val (.int p2), .val (.int p3), .val (.int p4), .val (.int p5), .val (.int p6), .val (.int ca), .val (.int cb), .val (.int cc), .val (.int (1 : Int32)), .val (.int mq), .val (.ref r32), .unset, .unset] [(.ref a_OTHER)])
        refine own_by (fun t_ k_ => XS.astore X43.here hx rfl (hb hby at_147) rfl rfl (l' := #[.val (.int p1), .val (.int p2), .val (.int p3), .val (.int p4), .val (.int p5), .val (.int p6), .val (.int ca), .val (.int cb), .val (.int cc), .val (.int (1 : Int32)), .val (.int mq), .val (.ref r32), .val (.ref a_OTHER), .unset]) rfl k_) ?_
        show own_Go p e below _ T43 (mkF m 149 #[.val (.int p1), .val (.int p2), .val (.int p3), .val (.int p4), .val (.int p5), .val (.int p6), .val (.int ca), .val (.int cb), .val (.int cc), .val (.int (1 : Int32)), .val (.int mq), .val (.ref r32), .val (.ref a_OTHER), .unset] [])
        refine own_by (fun t_ k_ => XS.goto X43.here hx rfl (pc0 := 149) (pc' := 157) rfl (hb hby at_149) (by decide) (by decide) k_) ?_
        show own_Go p e below _ T43 (mkF m 157 #[.val (.int p1), .val (.int p2), .val (.int p3), .val (.int p4), .val (.int p5), .val (.int p6), .val (.int ca), .val (.int cb), .val (.int cc), .val (.int (1 : Int32)), .val (.int mq), .val (.ref r32), .val (.ref a_OTHER), .unset] [])
        refine own_newO X43 hx hZ hown (own_w hw 35 rfl) (own_w hw 36 rfl) (own_w hw 37 rfl) e43 (hb hby at_157) (by decide) (by decide) ?_
        intro T45 h45 b45 X45 e45 g45 E45 A45 D45
        have g_b45 : n0 ≤ b45 := Nat.le_trans sz32 (Nat.le_of_eq g45.symm)
        have sz45 : n0 ≤ h45.size := Nat.le_trans sz32 E45.1
        have F46_0 : Fld Z h45 b45 "com/example/restate/restate/Citation" "paragraph" "I" (.int (0 : Int32)) := D45 (Or.inr (own_w hw 48 rfl)) (ty := .int) (by decide)
        have F47_0 : Fld Z h45 b45 "com/example/restate/restate/Citation" "start" "I" (.int (0 : Int32)) := D45 (Or.inr (own_w hw 50 rfl)) (ty := .int) (by decide)
        have F48_0 : Fld Z h45 b45 "com/example/restate/restate/Citation" "label" "Ljava/lang/String;" .null := D45 (Or.inr (own_w hw 52 rfl)) (ty := (.object "java/lang/String")) (by decide)
        have F49_0 : Fld Z h45 b45 "com/example/restate/restate/Citation" "reading" "Lcom/example/restate/restate/Citation$Reading;" .null := D45 (Or.inr (own_w hw 54 rfl)) (ty := (.object "com/example/restate/restate/Citation$Reading")) (by decide)
        show own_Go p e below _ T45 (mkF m 160 #[.val (.int p1), .val (.int p2), .val (.int p3), .val (.int p4), .val (.int p5), .val (.int p6), .val (.int ca), .val (.int cb), .val (.int cc), .val (.int (1 : Int32)), .val (.int mq), .val (.ref r32), .val (.ref a_OTHER), .unset] [(.ref b45)])
        refine own_by (fun t_ k_ => XS.dup X45.here hx rfl (hb hby at_160) rfl rfl k_) ?_
        show own_Go p e below _ T45 (mkF m 161 #[.val (.int p1), .val (.int p2), .val (.int p3), .val (.int p4), .val (.int p5), .val (.int p6), .val (.int ca), .val (.int cb), .val (.int cc), .val (.int (1 : Int32)), .val (.int mq), .val (.ref r32), .val (.ref a_OTHER), .unset] [(.ref b45), (.ref b45)])
        refine own_by (fun t_ k_ => XS.iloadN X45.here hx rfl (hb hby at_161) rfl k_) ?_
        show own_Go p e below _ T45 (mkF m 162 #[.val (.int p1), .val (.int p2), .val (.int p3), .val (.int p4), .val (.int p5), .val (.int p6), .val (.int ca), .val (.int cb), .val (.int cc), .val (.int (1 : Int32)), .val (.int mq), .val (.ref r32), .val (.ref a_OTHER), .unset] [(.int p1), (.ref b45), (.ref b45)])
        refine own_by (fun t_ k_ => XS.iloadN X45.here hx rfl (hb hby at_162) rfl k_) ?_
        show own_Go p e below _ T45 (mkF m 163 #[.val (.int p1), .val (.int p2), .val (.int p3), .val (.int p4), .val (.int p5), .val (.int p6), .val (.int ca), .val (.int cb), .val (.int cc), .val (.int (1 : Int32)), .val (.int mq), .val (.ref r32), .val (.ref a_OTHER), .unset] [(.int p2), (.int p1), (.ref b45), (.ref b45)])
        refine own_by (fun t_ k_ => XS.aload X45.here hx rfl (hb hby at_163) rfl rfl k_) ?_
        show own_Go p e below _ T45 (mkF m 165 #[.val (.int p1), .val (.int p2), .val (.int p3), .val (.int p4), .val (.int p5), .val (.int p6), .val (.int ca), .val (.int cb), .val (.int cc), .val (.int (1 : Int32)), .val (.int mq), .val (.ref r32), .val (.ref a_OTHER), .unset] [(.ref r32), (.int p2), (.int p1), (.ref b45), (.ref b45)])
        refine own_by (fun t_ k_ => XS.aload X45.here hx rfl (hb hby at_165) rfl rfl k_) ?_
        show own_Go p e below _ T45 (mkF m 167 #[.val (.int p1), .val (.int p2), .val (.int p3), .val (.int p4), .val (.int p5), .val (.int p6), .val (.int ca), .val (.int cb), .val (.int cc), .val (.int (1 : Int32)), .val (.int mq), .val (.ref r32), .val (.ref a_OTHER), .unset] [(.ref a_OTHER), (.ref r32), (.int p2), (.int p1), (.ref b45), (.ref b45)])
        have HS1 : own_S Z h45 r32 1 := (own_S.ext HS E45)
        refine own_callC (W := 1) X45 hx hZ (y := (⟨"com/example/restate/restate/Citation", "<init>", "(IILjava/lang/String;Lcom/example/restate/restate/Citation$Reading;)V"⟩ : MethodName)) rfl hown (own_w hw 38 rfl) (own_w hw 39 rfl) (own_w hw 37 rfl) (own_w hw 40 rfl) (by decide) (by rw [hml]; rfl) (argsL := [(.int p1), (.int p2), (.ref r32), (.ref a_OTHER)]) pd_6 rfl (a := b45) (rm7 l Z a0 hw [] b45 p1 p2 r32 a_OTHER h45 n0 sz45 A45 F46_0 F47_0 F48_0 F49_0 g_b45) (by decide) (by decide) (Nat.le_of_eq rfl) (by decide) (by decide) (rest := [(.ref b45)]) e45 rfl (hb hby at_167) ?_
        intro v50 T50 L50 X50 hQ50
        obtain ⟨rfl, N50q, K50q, E50, Fs50, Fl50⟩ := hQ50
        have N50 := Fr.app N32 N50q
        have sz50 : n0 ≤ T50.heap.size := Nat.le_trans sz45 K50q.1
        have HS2 : own_S Z T50.heap r32 1 := HS1.keep K50q A45 (own_w hw 36 rfl) (by decide)
        show own_Go p e below _ T50 (mkF m 170 #[.val (.int p1), .val (.int p2), .val (.int p3), .val (.int p4), .val (.int p5), .val (.int p6), .val (.int ca), .val (.int cb), .val (.int cc), .val (.int (1 : Int32)), .val (.int mq), .val (.ref r32), .val (.ref a_OTHER), .unset] [(.ref b45)])
        refine own_by (fun t_ k_ => XS.astore X50.here hx rfl (hb hby at_170) rfl rfl (l' := #[.val (.int p1), .val (.int p2), .val (.int p3), .val (.int p4), .val (.int p5), .val (.int p6), .val (.int ca), .val (.int cb), .val (.int cc), .val (.int (1 : Int32)), .val (.int mq), .val (.ref r32), .val (.ref a_OTHER), .val (.ref b45)]) rfl k_) ?_
        show own_Go p e below _ T50 (mkF m 172 #[.val (.int p1), .val (.int p2), .val (.int p3), .val (.int p4), .val (.int p5), .val (.int p6), .val (.int ca), .val (.int cb), .val (.int cc), .val (.int (1 : Int32)), .val (.int mq), .val (.ref r32), .val (.ref a_OTHER), .val (.ref b45)] [])
        refine own_by (fun t_ k_ => XS.aload X50.here hx rfl (hb hby at_172) rfl rfl k_) ?_
        show own_Go p e below _ T50 (mkF m 174 #[.val (.int p1), .val (.int p2), .val (.int p3), .val (.int p4), .val (.int p5), .val (.int p6), .val (.int ca), .val (.int cb), .val (.int cc), .val (.int (1 : Int32)), .val (.int mq), .val (.ref r32), .val (.ref a_OTHER), .val (.ref b45)] [(.ref b45)])
        have S_cs_51 : Sta Z T50.heap "java/lang/String" "COMPACT_STRINGS" "Z" (.int cs) := (own_Sta_keep (Sta.ext E45 (own_Sta_keep S_cs K32q ns0)) K50q (nsS (own_nosE A45) ns0))
        refine own_callV (W := 0) X50 hx hZ (y := (⟨"com/example/restate/restate/Citation", "end", "()I"⟩ : MethodName)) (z := (⟨"com/example/restate/restate/Citation", "end", "()I"⟩ : MethodName)) hown (own_w hw 55 rfl) (own_w hw 56 rfl) (notFace_of_selects (args := #[]) (mvT hZ (own_w hw 58 rfl))) (own_w hw 58 rfl) (own_w hw 57 rfl) (own_w hw 37 rfl) (own_w hw 59 rfl) (by decide) (by rw [hml]; rfl) (argsL := []) pd_7 rfl (a := b45) rfl E50 (rm9 l Z a0 hw [] b45 p2 r32 1 cs T50.heap n0 sz50 S_cs_51 hcs Fs50 Fl50 HS2) (by decide) (by decide) (Nat.le_of_eq rfl) (by decide) (by decide) (rest := []) rfl (hb hby at_174) ?_
        intro v52 T52 L52 X52 hQ52
        obtain ⟨rfl, N52q, e52⟩ := hQ52
        have N52 := Fr.app N50 N52q
        show own_Go p e below _ T52 (mkF m 177 #[.val (.int p1), .val (.int p2), .val (.int p3), .val (.int p4), .val (.int p5), .val (.int p6), .val (.int ca), .val (.int cb), .val (.int cc), .val (.int (1 : Int32)), .val (.int mq), .val (.ref r32), .val (.ref a_OTHER), .val (.ref b45)] [(.int (p2 + (1 : Int32)))])
        refine own_by (fun t_ k_ => XS.iloadN X52.here hx rfl (hb hby at_177) rfl k_) ?_
        show own_Go p e below _ T52 (mkF m 178 #[.val (.int p1), .val (.int p2), .val (.int p3), .val (.int p4), .val (.int p5), .val (.int p6), .val (.int ca), .val (.int cb), .val (.int cc), .val (.int (1 : Int32)), .val (.int mq), .val (.ref r32), .val (.ref a_OTHER), .val (.ref b45)] [(.int p2), (.int (p2 + (1 : Int32)))])
        refine own_by (fun t_ k_ => XS.iload X52.here hx rfl (hb hby at_178) rfl k_) ?_
        show own_Go p e below _ T52 (mkF m 180 #[.val (.int p1), .val (.int p2), .val (.int p3), .val (.int p4), .val (.int p5), .val (.int p6), .val (.int ca), .val (.int cb), .val (.int cc), .val (.int (1 : Int32)), .val (.int mq), .val (.ref r32), .val (.ref a_OTHER), .val (.ref b45)] [(.int (1 : Int32)), (.int p2), (.int (p2 + (1 : Int32)))])
        refine own_by (fun t_ k_ => XS.iadd X52.here hx rfl (hb hby at_180) rfl k_) ?_
        show own_Go p e below _ T52 (mkF m 181 #[.val (.int p1), .val (.int p2), .val (.int p3), .val (.int p4), .val (.int p5), .val (.int p6), .val (.int ca), .val (.int cb), .val (.int cc), .val (.int (1 : Int32)), .val (.int mq), .val (.ref r32), .val (.ref a_OTHER), .val (.ref b45)] [(.int (p2 + (1 : Int32))), (.int (p2 + (1 : Int32)))])
        refine own_icmp X52 hx 188 (hb hby at_181) (by decide) (by decide) (fun hc => absurd (show (p2 + (1 : Int32)) = (p2 + (1 : Int32)) from rfl) (by first | exact hc | exact not_not_intro hc)) (fun _ => ?_)
        show own_Go p e below _ T52 (mkF m 184 #[.val (.int p1), .val (.int p2), .val (.int p3), .val (.int p4), .val (.int p5), .val (.int p6), .val (.int ca), .val (.int cb), .val (.int cc), .val (.int (1 : Int32)), .val (.int mq), .val (.ref r32), .val (.ref a_OTHER), .val (.ref b45)] [])
        refine own_by (fun t_ k_ => XS.iconst X52.here hx rfl (hb hby at_184) k_) ?_
        show own_Go p e below _ T52 (mkF m 185 #[.val (.int p1), .val (.int p2), .val (.int p3), .val (.int p4), .val (.int p5), .val (.int p6), .val (.int ca), .val (.int cb), .val (.int cc), .val (.int (1 : Int32)), .val (.int mq), .val (.ref r32), .val (.ref a_OTHER), .val (.ref b45)] [(.int (1 : Int32))])
        refine own_by (fun t_ k_ => XS.goto X52.here hx rfl (pc0 := 185) (pc' := 189) rfl (hb hby at_185) (by decide) (by decide) k_) ?_
        show own_Go p e below _ T52 (mkF m 189 #[.val (.int p1), .val (.int p2), .val (.int p3), .val (.int p4), .val (.int p5), .val (.int p6), .val (.int ca), .val (.int cb), .val (.int cc), .val (.int (1 : Int32)), .val (.int mq), .val (.ref r32), .val (.ref a_OTHER), .val (.ref b45)] [(.int (1 : Int32))])
        refine own_retZw X52 hx hS0 (Nat.le_trans (Nat.le_trans (Nat.le_trans hk0 K32q.1) E45.1) K50q.1) hlk Bd.returns (by decide) (hb hby at_189) e52 (by decide) (by decide) ?_
        exact ⟨rfl, N52⟩
    · show own_Go p e below _ T32 (mkF m 130 #[.val (.int p1), .val (.int p2), .val (.int p3), .val (.int p4), .val (.int p5), .val (.int p6), .val (.int ca), .val (.int cb), .val (.int cc), .val (.int (1 : Int32)), .val (.int mq), .val (.ref r32), .unset, .unset] [])
      have S_OWN_54 : Sta Z T32.heap "com/example/restate/restate/Citation$Reading" "OWN" "Lcom/example/restate/restate/Citation$Reading;" (.ref a_OWN) := (own_Sta_keep S_OWN K32q ns0)
      refine own_getS X32 hx hZ hown (own_w hw 32 rfl) Via.refl rfl S_OWN_54 (hb hby at_130) ?_
      intro T53 X53 e53
      show own_Go p e below _ T53 (mkF m 133 #[.val (.int p1), .val (.int p2), .val (.int p3), .val (.int p4), .val (.int p5), .val (.int p6), .val (.int ca), .val (.int cb), .val (.int cc), .val (.int (1 : Int32)), .val (.int mq), .val (.ref r32), .unset, .unset] [(.ref a_OWN)])
      refine own_by (fun t_ k_ => XS.astore X53.here hx rfl (hb hby at_133) rfl rfl (l' := #[.val (.int p1), .val (.int p2), .val (.int p3), .val (.int p4), .val (.int p5), .val (.int p6), .val (.int ca), .val (.int cb), .val (.int cc), .val (.int (1 : Int32)), .val (.int mq), .val (.ref r32), .val (.ref a_OWN), .unset]) rfl k_) ?_
      show own_Go p e below _ T53 (mkF m 135 #[.val (.int p1), .val (.int p2), .val (.int p3), .val (.int p4), .val (.int p5), .val (.int p6), .val (.int ca), .val (.int cb), .val (.int cc), .val (.int (1 : Int32)), .val (.int mq), .val (.ref r32), .val (.ref a_OWN), .unset] [])
      refine own_by (fun t_ k_ => XS.goto X53.here hx rfl (pc0 := 135) (pc' := 157) rfl (hb hby at_135) (by decide) (by decide) k_) ?_
      show own_Go p e below _ T53 (mkF m 157 #[.val (.int p1), .val (.int p2), .val (.int p3), .val (.int p4), .val (.int p5), .val (.int p6), .val (.int ca), .val (.int cb), .val (.int cc), .val (.int (1 : Int32)), .val (.int mq), .val (.ref r32), .val (.ref a_OWN), .unset] [])
      refine own_newO X53 hx hZ hown (own_w hw 35 rfl) (own_w hw 36 rfl) (own_w hw 37 rfl) e53 (hb hby at_157) (by decide) (by decide) ?_
      intro T55 h55 b55 X55 e55 g55 E55 A55 D55
      have g_b55 : n0 ≤ b55 := Nat.le_trans sz32 (Nat.le_of_eq g55.symm)
      have sz55 : n0 ≤ h55.size := Nat.le_trans sz32 E55.1
      have F56_0 : Fld Z h55 b55 "com/example/restate/restate/Citation" "paragraph" "I" (.int (0 : Int32)) := D55 (Or.inr (own_w hw 48 rfl)) (ty := .int) (by decide)
      have F57_0 : Fld Z h55 b55 "com/example/restate/restate/Citation" "start" "I" (.int (0 : Int32)) := D55 (Or.inr (own_w hw 50 rfl)) (ty := .int) (by decide)
      have F58_0 : Fld Z h55 b55 "com/example/restate/restate/Citation" "label" "Ljava/lang/String;" .null := D55 (Or.inr (own_w hw 52 rfl)) (ty := (.object "java/lang/String")) (by decide)
      have F59_0 : Fld Z h55 b55 "com/example/restate/restate/Citation" "reading" "Lcom/example/restate/restate/Citation$Reading;" .null := D55 (Or.inr (own_w hw 54 rfl)) (ty := (.object "com/example/restate/restate/Citation$Reading")) (by decide)
      show own_Go p e below _ T55 (mkF m 160 #[.val (.int p1), .val (.int p2), .val (.int p3), .val (.int p4), .val (.int p5), .val (.int p6), .val (.int ca), .val (.int cb), .val (.int cc), .val (.int (1 : Int32)), .val (.int mq), .val (.ref r32), .val (.ref a_OWN), .unset] [(.ref b55)])
      refine own_by (fun t_ k_ => XS.dup X55.here hx rfl (hb hby at_160) rfl rfl k_) ?_
      show own_Go p e below _ T55 (mkF m 161 #[.val (.int p1), .val (.int p2), .val (.int p3), .val (.int p4), .val (.int p5), .val (.int p6), .val (.int ca), .val (.int cb), .val (.int cc), .val (.int (1 : Int32)), .val (.int mq), .val (.ref r32), .val (.ref a_OWN), .unset] [(.ref b55), (.ref b55)])
      refine own_by (fun t_ k_ => XS.iloadN X55.here hx rfl (hb hby at_161) rfl k_) ?_
      show own_Go p e below _ T55 (mkF m 162 #[.val (.int p1), .val (.int p2), .val (.int p3), .val (.int p4), .val (.int p5), .val (.int p6), .val (.int ca), .val (.int cb), .val (.int cc), .val (.int (1 : Int32)), .val (.int mq), .val (.ref r32), .val (.ref a_OWN), .unset] [(.int p1), (.ref b55), (.ref b55)])
      refine own_by (fun t_ k_ => XS.iloadN X55.here hx rfl (hb hby at_162) rfl k_) ?_
      show own_Go p e below _ T55 (mkF m 163 #[.val (.int p1), .val (.int p2), .val (.int p3), .val (.int p4), .val (.int p5), .val (.int p6), .val (.int ca), .val (.int cb), .val (.int cc), .val (.int (1 : Int32)), .val (.int mq), .val (.ref r32), .val (.ref a_OWN), .unset] [(.int p2), (.int p1), (.ref b55), (.ref b55)])
      refine own_by (fun t_ k_ => XS.aload X55.here hx rfl (hb hby at_163) rfl rfl k_) ?_
      show own_Go p e below _ T55 (mkF m 165 #[.val (.int p1), .val (.int p2), .val (.int p3), .val (.int p4), .val (.int p5), .val (.int p6), .val (.int ca), .val (.int cb), .val (.int cc), .val (.int (1 : Int32)), .val (.int mq), .val (.ref r32), .val (.ref a_OWN), .unset] [(.ref r32), (.int p2), (.int p1), (.ref b55), (.ref b55)])
      refine own_by (fun t_ k_ => XS.aload X55.here hx rfl (hb hby at_165) rfl rfl k_) ?_
      show own_Go p e below _ T55 (mkF m 167 #[.val (.int p1), .val (.int p2), .val (.int p3), .val (.int p4), .val (.int p5), .val (.int p6), .val (.int ca), .val (.int cb), .val (.int cc), .val (.int (1 : Int32)), .val (.int mq), .val (.ref r32), .val (.ref a_OWN), .unset] [(.ref a_OWN), (.ref r32), (.int p2), (.int p1), (.ref b55), (.ref b55)])
      have HS1 : own_S Z h55 r32 1 := (own_S.ext HS E55)
      refine own_callC (W := 1) X55 hx hZ (y := (⟨"com/example/restate/restate/Citation", "<init>", "(IILjava/lang/String;Lcom/example/restate/restate/Citation$Reading;)V"⟩ : MethodName)) rfl hown (own_w hw 38 rfl) (own_w hw 39 rfl) (own_w hw 37 rfl) (own_w hw 40 rfl) (by decide) (by rw [hml]; rfl) (argsL := [(.int p1), (.int p2), (.ref r32), (.ref a_OWN)]) pd_6 rfl (a := b55) (rm7 l Z a0 hw [] b55 p1 p2 r32 a_OWN h55 n0 sz55 A55 F56_0 F57_0 F58_0 F59_0 g_b55) (by decide) (by decide) (Nat.le_of_eq rfl) (by decide) (by decide) (rest := [(.ref b55)]) e55 rfl (hb hby at_167) ?_
      intro v60 T60 L60 X60 hQ60
      obtain ⟨rfl, N60q, K60q, E60, Fs60, Fl60⟩ := hQ60
      have N60 := Fr.app N32 N60q
      have sz60 : n0 ≤ T60.heap.size := Nat.le_trans sz55 K60q.1
      have HS2 : own_S Z T60.heap r32 1 := HS1.keep K60q A55 (own_w hw 36 rfl) (by decide)
      show own_Go p e below _ T60 (mkF m 170 #[.val (.int p1), .val (.int p2), .val (.int p3), .val (.int p4), .val (.int p5), .val (.int p6), .val (.int ca), .val (.int cb), .val (.int cc), .val (.int (1 : Int32)), .val (.int mq), .val (.ref r32), .val (.ref a_OWN), .unset] [(.ref b55)])
      refine own_by (fun t_ k_ => XS.astore X60.here hx rfl (hb hby at_170) rfl rfl (l' := #[.val (.int p1), .val (.int p2), .val (.int p3), .val (.int p4), .val (.int p5), .val (.int p6), .val (.int ca), .val (.int cb), .val (.int cc), .val (.int (1 : Int32)), .val (.int mq), .val (.ref r32), .val (.ref a_OWN), .val (.ref b55)]) rfl k_) ?_
      show own_Go p e below _ T60 (mkF m 172 #[.val (.int p1), .val (.int p2), .val (.int p3), .val (.int p4), .val (.int p5), .val (.int p6), .val (.int ca), .val (.int cb), .val (.int cc), .val (.int (1 : Int32)), .val (.int mq), .val (.ref r32), .val (.ref a_OWN), .val (.ref b55)] [])
      refine own_by (fun t_ k_ => XS.aload X60.here hx rfl (hb hby at_172) rfl rfl k_) ?_
      show own_Go p e below _ T60 (mkF m 174 #[.val (.int p1), .val (.int p2), .val (.int p3), .val (.int p4), .val (.int p5), .val (.int p6), .val (.int ca), .val (.int cb), .val (.int cc), .val (.int (1 : Int32)), .val (.int mq), .val (.ref r32), .val (.ref a_OWN), .val (.ref b55)] [(.ref b55)])
      have S_cs_61 : Sta Z T60.heap "java/lang/String" "COMPACT_STRINGS" "Z" (.int cs) := (own_Sta_keep (Sta.ext E55 (own_Sta_keep S_cs K32q ns0)) K60q (nsS (own_nosE A55) ns0))
      refine own_callV (W := 0) X60 hx hZ (y := (⟨"com/example/restate/restate/Citation", "end", "()I"⟩ : MethodName)) (z := (⟨"com/example/restate/restate/Citation", "end", "()I"⟩ : MethodName)) hown (own_w hw 55 rfl) (own_w hw 56 rfl) (notFace_of_selects (args := #[]) (mvT hZ (own_w hw 58 rfl))) (own_w hw 58 rfl) (own_w hw 57 rfl) (own_w hw 37 rfl) (own_w hw 59 rfl) (by decide) (by rw [hml]; rfl) (argsL := []) pd_7 rfl (a := b55) rfl E60 (rm9 l Z a0 hw [] b55 p2 r32 1 cs T60.heap n0 sz60 S_cs_61 hcs Fs60 Fl60 HS2) (by decide) (by decide) (Nat.le_of_eq rfl) (by decide) (by decide) (rest := []) rfl (hb hby at_174) ?_
      intro v62 T62 L62 X62 hQ62
      obtain ⟨rfl, N62q, e62⟩ := hQ62
      have N62 := Fr.app N60 N62q
      show own_Go p e below _ T62 (mkF m 177 #[.val (.int p1), .val (.int p2), .val (.int p3), .val (.int p4), .val (.int p5), .val (.int p6), .val (.int ca), .val (.int cb), .val (.int cc), .val (.int (1 : Int32)), .val (.int mq), .val (.ref r32), .val (.ref a_OWN), .val (.ref b55)] [(.int (p2 + (1 : Int32)))])
      refine own_by (fun t_ k_ => XS.iloadN X62.here hx rfl (hb hby at_177) rfl k_) ?_
      show own_Go p e below _ T62 (mkF m 178 #[.val (.int p1), .val (.int p2), .val (.int p3), .val (.int p4), .val (.int p5), .val (.int p6), .val (.int ca), .val (.int cb), .val (.int cc), .val (.int (1 : Int32)), .val (.int mq), .val (.ref r32), .val (.ref a_OWN), .val (.ref b55)] [(.int p2), (.int (p2 + (1 : Int32)))])
      refine own_by (fun t_ k_ => XS.iload X62.here hx rfl (hb hby at_178) rfl k_) ?_
      show own_Go p e below _ T62 (mkF m 180 #[.val (.int p1), .val (.int p2), .val (.int p3), .val (.int p4), .val (.int p5), .val (.int p6), .val (.int ca), .val (.int cb), .val (.int cc), .val (.int (1 : Int32)), .val (.int mq), .val (.ref r32), .val (.ref a_OWN), .val (.ref b55)] [(.int (1 : Int32)), (.int p2), (.int (p2 + (1 : Int32)))])
      refine own_by (fun t_ k_ => XS.iadd X62.here hx rfl (hb hby at_180) rfl k_) ?_
      show own_Go p e below _ T62 (mkF m 181 #[.val (.int p1), .val (.int p2), .val (.int p3), .val (.int p4), .val (.int p5), .val (.int p6), .val (.int ca), .val (.int cb), .val (.int cc), .val (.int (1 : Int32)), .val (.int mq), .val (.ref r32), .val (.ref a_OWN), .val (.ref b55)] [(.int (p2 + (1 : Int32))), (.int (p2 + (1 : Int32)))])
      refine own_icmp X62 hx 188 (hb hby at_181) (by decide) (by decide) (fun hc => absurd (show (p2 + (1 : Int32)) = (p2 + (1 : Int32)) from rfl) (by first | exact hc | exact not_not_intro hc)) (fun _ => ?_)
      show own_Go p e below _ T62 (mkF m 184 #[.val (.int p1), .val (.int p2), .val (.int p3), .val (.int p4), .val (.int p5), .val (.int p6), .val (.int ca), .val (.int cb), .val (.int cc), .val (.int (1 : Int32)), .val (.int mq), .val (.ref r32), .val (.ref a_OWN), .val (.ref b55)] [])
      refine own_by (fun t_ k_ => XS.iconst X62.here hx rfl (hb hby at_184) k_) ?_
      show own_Go p e below _ T62 (mkF m 185 #[.val (.int p1), .val (.int p2), .val (.int p3), .val (.int p4), .val (.int p5), .val (.int p6), .val (.int ca), .val (.int cb), .val (.int cc), .val (.int (1 : Int32)), .val (.int mq), .val (.ref r32), .val (.ref a_OWN), .val (.ref b55)] [(.int (1 : Int32))])
      refine own_by (fun t_ k_ => XS.goto X62.here hx rfl (pc0 := 185) (pc' := 189) rfl (hb hby at_185) (by decide) (by decide) k_) ?_
      show own_Go p e below _ T62 (mkF m 189 #[.val (.int p1), .val (.int p2), .val (.int p3), .val (.int p4), .val (.int p5), .val (.int p6), .val (.int ca), .val (.int cb), .val (.int cc), .val (.int (1 : Int32)), .val (.int mq), .val (.ref r32), .val (.ref a_OWN), .val (.ref b55)] [(.int (1 : Int32))])
      refine own_retZw X62 hx hS0 (Nat.le_trans (Nat.le_trans (Nat.le_trans hk0 K32q.1) E55.1) K60q.1) hlk Bd.returns (by decide) (hb hby at_189) e62 (by decide) (by decide) ?_
      exact ⟨rfl, N62⟩
  · show own_Go p e below _ s₁ (mkF m 28 #[.val (.int p1), .val (.int p2), .val (.int p3), .val (.int p4), .val (.int p5), .val (.int p6), .val (.int ca), .val (.int cb), .val (.int cc), .val (.int (2 : Int32)), .unset, .unset, .unset, .unset] [])
    refine own_by (fun t_ k_ => XS.iload X0.here hx rfl (hb hby at_28) rfl k_) ?_
    show own_Go p e below _ s₁ (mkF m 30 #[.val (.int p1), .val (.int p2), .val (.int p3), .val (.int p4), .val (.int p5), .val (.int p6), .val (.int ca), .val (.int cb), .val (.int cc), .val (.int (2 : Int32)), .unset, .unset, .unset, .unset] [(.int p6)])
    refine own_by (fun t_ k_ => XS.iconst X0.here hx rfl (hb hby at_30) k_) ?_
    show own_Go p e below _ s₁ (mkF m 31 #[.val (.int p1), .val (.int p2), .val (.int p3), .val (.int p4), .val (.int p5), .val (.int p6), .val (.int ca), .val (.int cb), .val (.int cc), .val (.int (2 : Int32)), .unset, .unset, .unset, .unset] [(.int (2 : Int32)), (.int p6)])
    refine own_by (fun t_ k_ => XT.iushr X0.here hx rfl (hb hby at_31) rfl k_) ?_
    show own_Go p e below _ s₁ (mkF m 32 #[.val (.int p1), .val (.int p2), .val (.int p3), .val (.int p4), .val (.int p5), .val (.int p6), .val (.int ca), .val (.int cb), .val (.int cc), .val (.int (2 : Int32)), .unset, .unset, .unset, .unset] [(.int (XT.ushr p6 (2 : Int32)))])
    refine own_by (fun t_ k_ => X0.ldcInt hx hown (mvT hZ (own_w hw 1 rfl)) (g := (mkF m 32 #[.val (.int p1), .val (.int p2), .val (.int p3), .val (.int p4), .val (.int p5), .val (.int p6), .val (.int ca), .val (.int cb), .val (.int cc), .val (.int (2 : Int32)), .unset, .unset, .unset, .unset] [(.int (XT.ushr p6 (2 : Int32)))])) rfl (hb hby at_32) _ k_) ?_
    show own_Go p e below _ s₁ (mkF m 34 #[.val (.int p1), .val (.int p2), .val (.int p3), .val (.int p4), .val (.int p5), .val (.int p6), .val (.int ca), .val (.int cb), .val (.int cc), .val (.int (2 : Int32)), .unset, .unset, .unset, .unset] [(.int (2147483647 : Int32)), (.int (XT.ushr p6 (2 : Int32)))])
    refine own_by (fun t_ k_ => XS.iand X0.here hx rfl (hb hby at_34) rfl k_) ?_
    show own_Go p e below _ s₁ (mkF m 35 #[.val (.int p1), .val (.int p2), .val (.int p3), .val (.int p4), .val (.int p5), .val (.int p6), .val (.int ca), .val (.int cb), .val (.int cc), .val (.int (2 : Int32)), .unset, .unset, .unset, .unset] [(.int ((XT.ushr p6 (2 : Int32)) &&& (2147483647 : Int32)))])
    refine own_by (fun t_ k_ => XS.iconst X0.here hx rfl (hb hby at_35) k_) ?_
    show own_Go p e below _ s₁ (mkF m 36 #[.val (.int p1), .val (.int p2), .val (.int p3), .val (.int p4), .val (.int p5), .val (.int p6), .val (.int ca), .val (.int cb), .val (.int cc), .val (.int (2 : Int32)), .unset, .unset, .unset, .unset] [(.int (3 : Int32)), (.int ((XT.ushr p6 (2 : Int32)) &&& (2147483647 : Int32)))])
    refine own_by (fun t_ k_ => iremM X0 hx rfl (hb hby at_36) rfl (by decide) k_) ?_
    show own_Go p e below _ s₁ (mkF m 37 #[.val (.int p1), .val (.int p2), .val (.int p3), .val (.int p4), .val (.int p5), .val (.int p6), .val (.int ca), .val (.int cb), .val (.int cc), .val (.int (2 : Int32)), .unset, .unset, .unset, .unset] [(.int (((XT.ushr p6 (2 : Int32)) &&& (2147483647 : Int32)) % (3 : Int32)))])
    refine own_by (fun t_ k_ => XS.istore X0.here hx rfl (hb hby at_37) rfl (l' := #[.val (.int p1), .val (.int p2), .val (.int p3), .val (.int p4), .val (.int p5), .val (.int p6), .val (.int ca), .val (.int cb), .val (.int cc), .val (.int (2 : Int32)), .val (.int (((XT.ushr p6 (2 : Int32)) &&& (2147483647 : Int32)) % (3 : Int32))), .unset, .unset, .unset]) rfl k_) ?_
    show own_Go p e below _ s₁ (mkF m 39 #[.val (.int p1), .val (.int p2), .val (.int p3), .val (.int p4), .val (.int p5), .val (.int p6), .val (.int ca), .val (.int cb), .val (.int cc), .val (.int (2 : Int32)), .val (.int (((XT.ushr p6 (2 : Int32)) &&& (2147483647 : Int32)) % (3 : Int32))), .unset, .unset, .unset] [])
    generalize h_mq : (((XT.ushr p6 (2 : Int32)) &&& (2147483647 : Int32)) % (3 : Int32)) = mq
    show own_Go p e below _ s₁ (mkF m 39 #[.val (.int p1), .val (.int p2), .val (.int p3), .val (.int p4), .val (.int p5), .val (.int p6), .val (.int ca), .val (.int cb), .val (.int cc), .val (.int (2 : Int32)), .val (.int mq), .unset, .unset, .unset] [])
    refine own_by (fun t_ k_ => XS.iload X0.here hx rfl (hb hby at_39) rfl k_) ?_
    show own_Go p e below _ s₁ (mkF m 41 #[.val (.int p1), .val (.int p2), .val (.int p3), .val (.int p4), .val (.int p5), .val (.int p6), .val (.int ca), .val (.int cb), .val (.int cc), .val (.int (2 : Int32)), .val (.int mq), .unset, .unset, .unset] [(.int (2 : Int32))])
    refine own_if X0 hx 51 (hb hby at_41) (by decide) (by decide) (fun _ => ?_) (fun hc => absurd (show ¬ (2 : Int32) = (0 : Int32) from by decide) (by first | exact hc | exact not_not_intro hc))
    show own_Go p e below _ s₁ (mkF m 51 #[.val (.int p1), .val (.int p2), .val (.int p3), .val (.int p4), .val (.int p5), .val (.int p6), .val (.int ca), .val (.int cb), .val (.int cc), .val (.int (2 : Int32)), .val (.int mq), .unset, .unset, .unset] [])
    refine own_by (fun t_ k_ => XS.iload X0.here hx rfl (hb hby at_51) rfl k_) ?_
    show own_Go p e below _ s₁ (mkF m 53 #[.val (.int p1), .val (.int p2), .val (.int p3), .val (.int p4), .val (.int p5), .val (.int p6), .val (.int ca), .val (.int cb), .val (.int cc), .val (.int (2 : Int32)), .val (.int mq), .unset, .unset, .unset] [(.int (2 : Int32))])
    refine own_by (fun t_ k_ => XS.iconst X0.here hx rfl (hb hby at_53) k_) ?_
    show own_Go p e below _ s₁ (mkF m 54 #[.val (.int p1), .val (.int p2), .val (.int p3), .val (.int p4), .val (.int p5), .val (.int p6), .val (.int ca), .val (.int cb), .val (.int cc), .val (.int (2 : Int32)), .val (.int mq), .unset, .unset, .unset] [(.int (1 : Int32)), (.int (2 : Int32))])
    refine own_icmp X0 hx 67 (hb hby at_54) (by decide) (by decide) (fun _ => ?_) (fun hc => absurd (show ¬ (2 : Int32) = (1 : Int32) from by decide) (by first | exact hc | exact not_not_intro hc))
    show own_Go p e below _ s₁ (mkF m 67 #[.val (.int p1), .val (.int p2), .val (.int p3), .val (.int p4), .val (.int p5), .val (.int p6), .val (.int ca), .val (.int cb), .val (.int cc), .val (.int (2 : Int32)), .val (.int mq), .unset, .unset, .unset] [])
    refine own_by (fun t_ k_ => XS.iload X0.here hx rfl (hb hby at_67) rfl k_) ?_
    show own_Go p e below _ s₁ (mkF m 69 #[.val (.int p1), .val (.int p2), .val (.int p3), .val (.int p4), .val (.int p5), .val (.int p6), .val (.int ca), .val (.int cb), .val (.int cc), .val (.int (2 : Int32)), .val (.int mq), .unset, .unset, .unset] [(.int (2 : Int32))])
    refine own_by (fun t_ k_ => XS.iconst X0.here hx rfl (hb hby at_69) k_) ?_
    show own_Go p e below _ s₁ (mkF m 70 #[.val (.int p1), .val (.int p2), .val (.int p3), .val (.int p4), .val (.int p5), .val (.int p6), .val (.int ca), .val (.int cb), .val (.int cc), .val (.int (2 : Int32)), .val (.int mq), .unset, .unset, .unset] [(.int (2 : Int32)), (.int (2 : Int32))])
    refine own_icmp X0 hx 98 (hb hby at_70) (by decide) (by decide) (fun hc => absurd (show (2 : Int32) = (2 : Int32) from by decide) (by first | exact hc | exact not_not_intro hc)) (fun _ => ?_)
    show own_Go p e below _ s₁ (mkF m 73 #[.val (.int p1), .val (.int p2), .val (.int p3), .val (.int p4), .val (.int p5), .val (.int p6), .val (.int ca), .val (.int cb), .val (.int cc), .val (.int (2 : Int32)), .val (.int mq), .unset, .unset, .unset] [])
    refine own_newO X0 hx hZ hown (own_w hw 2 rfl) (own_w hw 3 rfl) (own_w hw 4 rfl) e0 (hb hby at_73) (by decide) (by decide) ?_
    intro T63 h63 b63 X63 e63 g63 E63 A63 D63
    have g_b63 : n0 ≤ b63 := Nat.le_trans Z0 (Nat.le_of_eq g63.symm)
    have sz63 : n0 ≤ h63.size := Nat.le_trans Z0 E63.1
    have F64_0 : Fld Z h63 b63 "java/lang/String" "coder" "B" (.int (0 : Int32)) := D63 (Or.inr (own_w hw 29 rfl)) (ty := .byte) (by decide)
    have F65_0 : Fld Z h63 b63 "java/lang/String" "value" "[B" .null := D63 (Or.inr (own_w hw 31 rfl)) (ty := (.array .byte)) (by decide)
    show own_Go p e below _ T63 (mkF m 76 #[.val (.int p1), .val (.int p2), .val (.int p3), .val (.int p4), .val (.int p5), .val (.int p6), .val (.int ca), .val (.int cb), .val (.int cc), .val (.int (2 : Int32)), .val (.int mq), .unset, .unset, .unset] [(.ref b63)])
    refine own_by (fun t_ k_ => XS.dup X63.here hx rfl (hb hby at_76) rfl rfl k_) ?_
    show own_Go p e below _ T63 (mkF m 77 #[.val (.int p1), .val (.int p2), .val (.int p3), .val (.int p4), .val (.int p5), .val (.int p6), .val (.int ca), .val (.int cb), .val (.int cc), .val (.int (2 : Int32)), .val (.int mq), .unset, .unset, .unset] [(.ref b63), (.ref b63)])
    refine own_by (fun t_ k_ => XS.iconst X63.here hx rfl (hb hby at_77) k_) ?_
    show own_Go p e below _ T63 (mkF m 78 #[.val (.int p1), .val (.int p2), .val (.int p3), .val (.int p4), .val (.int p5), .val (.int p6), .val (.int ca), .val (.int cb), .val (.int cc), .val (.int (2 : Int32)), .val (.int mq), .unset, .unset, .unset] [(.int (2 : Int32)), (.ref b63), (.ref b63)])
    refine own_newP X63 hx hZ (own_w hw 5 rfl) e63 (hb hby at_78) 2 2 (by decide) (by decide) (by decide) (by decide) (by decide) ?_
    intro T66 h66 b66 X66 e66 g66 E66 A66
    have lt_b63_b66 : b63 < b66 := Nat.lt_of_lt_of_le A63.lt (Nat.le_of_eq g66.symm)
    have g_b66 : n0 ≤ b66 := Nat.le_trans sz63 (Nat.le_of_eq g66.symm)
    have sz66 : n0 ≤ h66.size := Nat.le_trans sz63 E66.1
    have V66_0 : own_Arr Z h66 b66 .char [(.int (0 : Int32)), (.int (0 : Int32))] := A66
    show own_Go p e below _ T66 (mkF m 80 #[.val (.int p1), .val (.int p2), .val (.int p3), .val (.int p4), .val (.int p5), .val (.int p6), .val (.int ca), .val (.int cb), .val (.int cc), .val (.int (2 : Int32)), .val (.int mq), .unset, .unset, .unset] [(.ref b66), (.ref b63), (.ref b63)])
    refine own_by (fun t_ k_ => XS.dup X66.here hx rfl (hb hby at_80) rfl rfl k_) ?_
    show own_Go p e below _ T66 (mkF m 81 #[.val (.int p1), .val (.int p2), .val (.int p3), .val (.int p4), .val (.int p5), .val (.int p6), .val (.int ca), .val (.int cb), .val (.int cc), .val (.int (2 : Int32)), .val (.int mq), .unset, .unset, .unset] [(.ref b66), (.ref b66), (.ref b63), (.ref b63)])
    refine own_by (fun t_ k_ => XS.iconst X66.here hx rfl (hb hby at_81) k_) ?_
    show own_Go p e below _ T66 (mkF m 82 #[.val (.int p1), .val (.int p2), .val (.int p3), .val (.int p4), .val (.int p5), .val (.int p6), .val (.int ca), .val (.int cb), .val (.int cc), .val (.int (2 : Int32)), .val (.int mq), .unset, .unset, .unset] [(.int (0 : Int32)), (.ref b66), (.ref b66), (.ref b63), (.ref b63)])
    refine own_by (fun t_ k_ => XS.iload X66.here hx rfl (hb hby at_82) rfl k_) ?_
    show own_Go p e below _ T66 (mkF m 84 #[.val (.int p1), .val (.int p2), .val (.int p3), .val (.int p4), .val (.int p5), .val (.int p6), .val (.int ca), .val (.int cb), .val (.int cc), .val (.int (2 : Int32)), .val (.int mq), .unset, .unset, .unset] [(.int ca), (.int (0 : Int32)), (.ref b66), (.ref b66), (.ref b63), (.ref b63)])
    refine own_castoreN X66 hx hZ e66 V66_0 (own_nar ok_ca) 0 (by decide) (Nat.le_of_ble_eq_true rfl) (hb hby at_84) ?_
    intro T67 h67 X67 e67 W67 A67
    have V67_0 : own_Arr Z h67 b66 .char [(.int ca), (.int (0 : Int32))] := A67
    have N67 := Fr.snoc X67 N0 g_b66
    have sz67 : n0 ≤ h67.size := Nat.le_trans sz66 (Keep.of_wr W67).1
    show own_Go p e below _ T67 (mkF m 85 #[.val (.int p1), .val (.int p2), .val (.int p3), .val (.int p4), .val (.int p5), .val (.int p6), .val (.int ca), .val (.int cb), .val (.int cc), .val (.int (2 : Int32)), .val (.int mq), .unset, .unset, .unset] [(.ref b66), (.ref b63), (.ref b63)])
    refine own_by (fun t_ k_ => XS.dup X67.here hx rfl (hb hby at_85) rfl rfl k_) ?_
    show own_Go p e below _ T67 (mkF m 86 #[.val (.int p1), .val (.int p2), .val (.int p3), .val (.int p4), .val (.int p5), .val (.int p6), .val (.int ca), .val (.int cb), .val (.int cc), .val (.int (2 : Int32)), .val (.int mq), .unset, .unset, .unset] [(.ref b66), (.ref b66), (.ref b63), (.ref b63)])
    refine own_by (fun t_ k_ => XS.iconst X67.here hx rfl (hb hby at_86) k_) ?_
    show own_Go p e below _ T67 (mkF m 87 #[.val (.int p1), .val (.int p2), .val (.int p3), .val (.int p4), .val (.int p5), .val (.int p6), .val (.int ca), .val (.int cb), .val (.int cc), .val (.int (2 : Int32)), .val (.int mq), .unset, .unset, .unset] [(.int (1 : Int32)), (.ref b66), (.ref b66), (.ref b63), (.ref b63)])
    refine own_by (fun t_ k_ => XS.iload X67.here hx rfl (hb hby at_87) rfl k_) ?_
    show own_Go p e below _ T67 (mkF m 89 #[.val (.int p1), .val (.int p2), .val (.int p3), .val (.int p4), .val (.int p5), .val (.int p6), .val (.int ca), .val (.int cb), .val (.int cc), .val (.int (2 : Int32)), .val (.int mq), .unset, .unset, .unset] [(.int cb), (.int (1 : Int32)), (.ref b66), (.ref b66), (.ref b63), (.ref b63)])
    refine own_castoreN X67 hx hZ e67 V67_0 (own_nar ok_cb) 1 (by decide) (Nat.le_of_ble_eq_true rfl) (hb hby at_89) ?_
    intro T68 h68 X68 e68 W68 A68
    have V68_0 : own_Arr Z h68 b66 .char [(.int ca), (.int cb)] := A68
    have N68 := Fr.snoc X68 N67 g_b66
    have sz68 : n0 ≤ h68.size := Nat.le_trans sz67 (Keep.of_wr W68).1
    show own_Go p e below _ T68 (mkF m 90 #[.val (.int p1), .val (.int p2), .val (.int p3), .val (.int p4), .val (.int p5), .val (.int p6), .val (.int ca), .val (.int cb), .val (.int cc), .val (.int (2 : Int32)), .val (.int mq), .unset, .unset, .unset] [(.ref b66), (.ref b63), (.ref b63)])
    have A63_69 : Exa Z h68 b63 "java/lang/String" := (Exa.wr W68 (Exa.wr W67 (Exa.ext E66 A63)))
    have F65_70 : Fld Z h68 b63 "java/lang/String" "value" "[B" .null := (Fld.other W68 (Fld.other W67 (Fld.ext E66 F65_0) (Or.inl (Nat.ne_of_lt lt_b63_b66))) (Or.inl (Nat.ne_of_lt lt_b63_b66)))
    have F64_71 : Fld Z h68 b63 "java/lang/String" "coder" "B" (.int (0 : Int32)) := (Fld.other W68 (Fld.other W67 (Fld.ext E66 F64_0) (Or.inl (Nat.ne_of_lt lt_b63_b66))) (Or.inl (Nat.ne_of_lt lt_b63_b66)))
    have S_cs_72 : Sta Z h68 "java/lang/String" "COMPACT_STRINGS" "Z" (.int cs) := (Sta.wr W68 (Sta.wr W67 (Sta.ext E66 (Sta.ext E63 S_cs))))
    have S_ad_73 : Sta Z h68 "java/lang/StringUTF16" "$assertionsDisabled" "Z" (.int (1 : Int32)) := (Sta.wr W68 (Sta.wr W67 (Sta.ext E66 (Sta.ext E63 S_ad))))
    have S_hb_74 : Sta Z h68 "java/lang/StringUTF16" "HI_BYTE_SHIFT" "I" (.int (0 : Int32)) := (Sta.wr W68 (Sta.wr W67 (Sta.ext E66 (Sta.ext E63 S_hb))))
    have S_lb_75 : Sta Z h68 "java/lang/StringUTF16" "LO_BYTE_SHIFT" "I" (.int (8 : Int32)) := (Sta.wr W68 (Sta.wr W67 (Sta.ext E66 (Sta.ext E63 S_lb))))
    refine own_callC (W := 1) X68 hx hZ (y := (⟨"java/lang/String", "<init>", "([C)V"⟩ : MethodName)) rfl hown (own_w hw 6 rfl) (own_w hw 7 rfl) (own_w hw 4 rfl) (own_w hw 8 rfl) (by decide) (by rw [hml]; rfl) (argsL := [(.ref b66)]) pd_0 rfl (a := b63) (rm1_2 l Z a0 hw [] b63 b66 ca cb cs h68 n0 sz68 A63_69 F65_70 F64_71 g_b63 S_cs_72 hcs S_ad_73 S_hb_74 S_lb_75 V68_0 ok_ca ok_cb) (by decide) (by decide) (Nat.le_of_eq rfl) (by decide) (by decide) (rest := [(.ref b63)]) e68 rfl (hb hby at_90) ?_
    intro v76 T76 L76 X76 hQ76
    obtain ⟨rfl, N76q, K76q, HS⟩ := hQ76
    have N76 := Fr.app N68 N76q
    have sz76 : n0 ≤ T76.heap.size := Nat.le_trans sz68 K76q.1
    show own_Go p e below _ T76 (mkF m 93 #[.val (.int p1), .val (.int p2), .val (.int p3), .val (.int p4), .val (.int p5), .val (.int p6), .val (.int ca), .val (.int cb), .val (.int cc), .val (.int (2 : Int32)), .val (.int mq), .unset, .unset, .unset] [(.ref b63)])
    refine own_by (fun t_ k_ => XS.astore X76.here hx rfl (hb hby at_93) rfl rfl (l' := #[.val (.int p1), .val (.int p2), .val (.int p3), .val (.int p4), .val (.int p5), .val (.int p6), .val (.int ca), .val (.int cb), .val (.int cc), .val (.int (2 : Int32)), .val (.int mq), .val (.ref b63), .unset, .unset]) rfl k_) ?_
    show own_Go p e below _ T76 (mkF m 95 #[.val (.int p1), .val (.int p2), .val (.int p3), .val (.int p4), .val (.int p5), .val (.int p6), .val (.int ca), .val (.int cb), .val (.int cc), .val (.int (2 : Int32)), .val (.int mq), .val (.ref b63), .unset, .unset] [])
    refine own_by (fun t_ k_ => XS.goto X76.here hx rfl (pc0 := 95) (pc' := 125) rfl (hb hby at_95) (by decide) (by decide) k_) ?_
    show own_Go p e below _ T76 (mkF m 125 #[.val (.int p1), .val (.int p2), .val (.int p3), .val (.int p4), .val (.int p5), .val (.int p6), .val (.int ca), .val (.int cb), .val (.int cc), .val (.int (2 : Int32)), .val (.int mq), .val (.ref b63), .unset, .unset] [])
    refine own_by (fun t_ k_ => XS.iload X76.here hx rfl (hb hby at_125) rfl k_) ?_
    show own_Go p e below _ T76 (mkF m 127 #[.val (.int p1), .val (.int p2), .val (.int p3), .val (.int p4), .val (.int p5), .val (.int p6), .val (.int ca), .val (.int cb), .val (.int cc), .val (.int (2 : Int32)), .val (.int mq), .val (.ref b63), .unset, .unset] [(.int mq)])
    refine own_if X76 hx 138 (hb hby at_127) (by decide) (by decide) (fun (hc127 : ¬ mq = (0 : Int32)) => ?_) (fun (hc127 : mq = (0 : Int32)) => ?_)
    · show own_Go p e below _ T76 (mkF m 138 #[.val (.int p1), .val (.int p2), .val (.int p3), .val (.int p4), .val (.int p5), .val (.int p6), .val (.int ca), .val (.int cb), .val (.int cc), .val (.int (2 : Int32)), .val (.int mq), .val (.ref b63), .unset, .unset] [])
      refine own_by (fun t_ k_ => XS.iload X76.here hx rfl (hb hby at_138) rfl k_) ?_
      show own_Go p e below _ T76 (mkF m 140 #[.val (.int p1), .val (.int p2), .val (.int p3), .val (.int p4), .val (.int p5), .val (.int p6), .val (.int ca), .val (.int cb), .val (.int cc), .val (.int (2 : Int32)), .val (.int mq), .val (.ref b63), .unset, .unset] [(.int mq)])
      refine own_by (fun t_ k_ => XS.iconst X76.here hx rfl (hb hby at_140) k_) ?_
      show own_Go p e below _ T76 (mkF m 141 #[.val (.int p1), .val (.int p2), .val (.int p3), .val (.int p4), .val (.int p5), .val (.int p6), .val (.int ca), .val (.int cb), .val (.int cc), .val (.int (2 : Int32)), .val (.int mq), .val (.ref b63), .unset, .unset] [(.int (1 : Int32)), (.int mq)])
      refine own_icmp X76 hx 152 (hb hby at_141) (by decide) (by decide) (fun (hc141 : ¬ mq = (1 : Int32)) => ?_) (fun (hc141 : mq = (1 : Int32)) => ?_)
      · show own_Go p e below _ T76 (mkF m 152 #[.val (.int p1), .val (.int p2), .val (.int p3), .val (.int p4), .val (.int p5), .val (.int p6), .val (.int ca), .val (.int cb), .val (.int cc), .val (.int (2 : Int32)), .val (.int mq), .val (.ref b63), .unset, .unset] [])
        have S_UNCLEAR_78 : Sta Z T76.heap "com/example/restate/restate/Citation$Reading" "UNCLEAR" "Lcom/example/restate/restate/Citation$Reading;" (.ref a_UNCLEAR) := (own_Sta_keep (Sta.wr W68 (Sta.wr W67 (Sta.ext E66 (Sta.ext E63 S_UNCLEAR)))) K76q (nsS (own_nosE A63_69) ns0))
        refine own_getS X76 hx hZ hown (own_w hw 84 rfl) Via.refl rfl S_UNCLEAR_78 (hb hby at_152) ?_
        intro T77 X77 e77
        show own_Go p e below _ T77 (mkF m 155 #[.val (.int p1), .val (.int p2), .val (.int p3), .val (.int p4), .val (.int p5), .val (.int p6), .val (.int ca), .val (.int cb), .val (.int cc), .val (.int (2 : Int32)), .val (.int mq), .val (.ref b63), .unset, .unset] [(.ref a_UNCLEAR)])
        refine own_by (fun t_ k_ => XS.astore X77.here hx rfl (hb hby at_155) rfl rfl (l' := #[.val (.int p1), .val (.int p2), .val (.int p3), .val (.int p4), .val (.int p5), .val (.int p6), .val (.int ca), .val (.int cb), .val (.int cc), .val (.int (2 : Int32)), .val (.int mq), .val (.ref b63), .val (.ref a_UNCLEAR), .unset]) rfl k_) ?_
        show own_Go p e below _ T77 (mkF m 157 #[.val (.int p1), .val (.int p2), .val (.int p3), .val (.int p4), .val (.int p5), .val (.int p6), .val (.int ca), .val (.int cb), .val (.int cc), .val (.int (2 : Int32)), .val (.int mq), .val (.ref b63), .val (.ref a_UNCLEAR), .unset] [])
        refine own_newO X77 hx hZ hown (own_w hw 35 rfl) (own_w hw 36 rfl) (own_w hw 37 rfl) e77 (hb hby at_157) (by decide) (by decide) ?_
        intro T79 h79 b79 X79 e79 g79 E79 A79 D79
        have A63_80 : Exa Z T76.heap b63 "java/lang/String" := (Exa.keep A63_69 K76q)
        have lt_b63_b79 : b63 < b79 := Nat.lt_of_lt_of_le A63_80.lt (Nat.le_of_eq g79.symm)
        have V68_81 : own_Arr Z T76.heap b66 .char [(.int ca), (.int cb)] := (own_Arr.keep V68_0 K76q (ninS (Ne.symm (Nat.ne_of_lt lt_b63_b66)) nin0))
        have lt_b66_b79 : b66 < b79 := Nat.lt_of_lt_of_le V68_81.lt (Nat.le_of_eq g79.symm)
        have g_b79 : n0 ≤ b79 := Nat.le_trans sz76 (Nat.le_of_eq g79.symm)
        have sz79 : n0 ≤ h79.size := Nat.le_trans sz76 E79.1
        have F82_0 : Fld Z h79 b79 "com/example/restate/restate/Citation" "paragraph" "I" (.int (0 : Int32)) := D79 (Or.inr (own_w hw 48 rfl)) (ty := .int) (by decide)
        have F83_0 : Fld Z h79 b79 "com/example/restate/restate/Citation" "start" "I" (.int (0 : Int32)) := D79 (Or.inr (own_w hw 50 rfl)) (ty := .int) (by decide)
        have F84_0 : Fld Z h79 b79 "com/example/restate/restate/Citation" "label" "Ljava/lang/String;" .null := D79 (Or.inr (own_w hw 52 rfl)) (ty := (.object "java/lang/String")) (by decide)
        have F85_0 : Fld Z h79 b79 "com/example/restate/restate/Citation" "reading" "Lcom/example/restate/restate/Citation$Reading;" .null := D79 (Or.inr (own_w hw 54 rfl)) (ty := (.object "com/example/restate/restate/Citation$Reading")) (by decide)
        show own_Go p e below _ T79 (mkF m 160 #[.val (.int p1), .val (.int p2), .val (.int p3), .val (.int p4), .val (.int p5), .val (.int p6), .val (.int ca), .val (.int cb), .val (.int cc), .val (.int (2 : Int32)), .val (.int mq), .val (.ref b63), .val (.ref a_UNCLEAR), .unset] [(.ref b79)])
        refine own_by (fun t_ k_ => XS.dup X79.here hx rfl (hb hby at_160) rfl rfl k_) ?_
        show own_Go p e below _ T79 (mkF m 161 #[.val (.int p1), .val (.int p2), .val (.int p3), .val (.int p4), .val (.int p5), .val (.int p6), .val (.int ca), .val (.int cb), .val (.int cc), .val (.int (2 : Int32)), .val (.int mq), .val (.ref b63), .val (.ref a_UNCLEAR), .unset] [(.ref b79), (.ref b79)])
        refine own_by (fun t_ k_ => XS.iloadN X79.here hx rfl (hb hby at_161) rfl k_) ?_
        show own_Go p e below _ T79 (mkF m 162 #[.val (.int p1), .val (.int p2), .val (.int p3), .val (.int p4), .val (.int p5), .val (.int p6), .val (.int ca), .val (.int cb), .val (.int cc), .val (.int (2 : Int32)), .val (.int mq), .val (.ref b63), .val (.ref a_UNCLEAR), .unset] [(.int p1), (.ref b79), (.ref b79)])
        refine own_by (fun t_ k_ => XS.iloadN X79.here hx rfl (hb hby at_162) rfl k_) ?_
        show own_Go p e below _ T79 (mkF m 163 #[.val (.int p1), .val (.int p2), .val (.int p3), .val (.int p4), .val (.int p5), .val (.int p6), .val (.int ca), .val (.int cb), .val (.int cc), .val (.int (2 : Int32)), .val (.int mq), .val (.ref b63), .val (.ref a_UNCLEAR), .unset] [(.int p2), (.int p1), (.ref b79), (.ref b79)])
        refine own_by (fun t_ k_ => XS.aload X79.here hx rfl (hb hby at_163) rfl rfl k_) ?_
        show own_Go p e below _ T79 (mkF m 165 #[.val (.int p1), .val (.int p2), .val (.int p3), .val (.int p4), .val (.int p5), .val (.int p6), .val (.int ca), .val (.int cb), .val (.int cc), .val (.int (2 : Int32)), .val (.int mq), .val (.ref b63), .val (.ref a_UNCLEAR), .unset] [(.ref b63), (.int p2), (.int p1), (.ref b79), (.ref b79)])
        refine own_by (fun t_ k_ => XS.aload X79.here hx rfl (hb hby at_165) rfl rfl k_) ?_
        show own_Go p e below _ T79 (mkF m 167 #[.val (.int p1), .val (.int p2), .val (.int p3), .val (.int p4), .val (.int p5), .val (.int p6), .val (.int ca), .val (.int cb), .val (.int cc), .val (.int (2 : Int32)), .val (.int mq), .val (.ref b63), .val (.ref a_UNCLEAR), .unset] [(.ref a_UNCLEAR), (.ref b63), (.int p2), (.int p1), (.ref b79), (.ref b79)])
        have HS1 : own_S Z h79 b63 2 := (own_S.ext HS E79)
        refine own_callC (W := 1) X79 hx hZ (y := (⟨"com/example/restate/restate/Citation", "<init>", "(IILjava/lang/String;Lcom/example/restate/restate/Citation$Reading;)V"⟩ : MethodName)) rfl hown (own_w hw 38 rfl) (own_w hw 39 rfl) (own_w hw 37 rfl) (own_w hw 40 rfl) (by decide) (by rw [hml]; rfl) (argsL := [(.int p1), (.int p2), (.ref b63), (.ref a_UNCLEAR)]) pd_6 rfl (a := b79) (rm7 l Z a0 hw [] b79 p1 p2 b63 a_UNCLEAR h79 n0 sz79 A79 F82_0 F83_0 F84_0 F85_0 g_b79) (by decide) (by decide) (Nat.le_of_eq rfl) (by decide) (by decide) (rest := [(.ref b79)]) e79 rfl (hb hby at_167) ?_
        intro v86 T86 L86 X86 hQ86
        obtain ⟨rfl, N86q, K86q, E86, Fs86, Fl86⟩ := hQ86
        have N86 := Fr.app N76 N86q
        have sz86 : n0 ≤ T86.heap.size := Nat.le_trans sz79 K86q.1
        have HS2 : own_S Z T86.heap b63 2 := HS1.keep K86q A79 (own_w hw 36 rfl) (by decide)
        show own_Go p e below _ T86 (mkF m 170 #[.val (.int p1), .val (.int p2), .val (.int p3), .val (.int p4), .val (.int p5), .val (.int p6), .val (.int ca), .val (.int cb), .val (.int cc), .val (.int (2 : Int32)), .val (.int mq), .val (.ref b63), .val (.ref a_UNCLEAR), .unset] [(.ref b79)])
        refine own_by (fun t_ k_ => XS.astore X86.here hx rfl (hb hby at_170) rfl rfl (l' := #[.val (.int p1), .val (.int p2), .val (.int p3), .val (.int p4), .val (.int p5), .val (.int p6), .val (.int ca), .val (.int cb), .val (.int cc), .val (.int (2 : Int32)), .val (.int mq), .val (.ref b63), .val (.ref a_UNCLEAR), .val (.ref b79)]) rfl k_) ?_
        show own_Go p e below _ T86 (mkF m 172 #[.val (.int p1), .val (.int p2), .val (.int p3), .val (.int p4), .val (.int p5), .val (.int p6), .val (.int ca), .val (.int cb), .val (.int cc), .val (.int (2 : Int32)), .val (.int mq), .val (.ref b63), .val (.ref a_UNCLEAR), .val (.ref b79)] [])
        refine own_by (fun t_ k_ => XS.aload X86.here hx rfl (hb hby at_172) rfl rfl k_) ?_
        show own_Go p e below _ T86 (mkF m 174 #[.val (.int p1), .val (.int p2), .val (.int p3), .val (.int p4), .val (.int p5), .val (.int p6), .val (.int ca), .val (.int cb), .val (.int cc), .val (.int (2 : Int32)), .val (.int mq), .val (.ref b63), .val (.ref a_UNCLEAR), .val (.ref b79)] [(.ref b79)])
        have S_cs_87 : Sta Z T86.heap "java/lang/String" "COMPACT_STRINGS" "Z" (.int cs) := (own_Sta_keep (Sta.ext E79 (own_Sta_keep S_cs_72 K76q (nsS (own_nosE A63_69) ns0))) K86q (nsS (own_nosE A79) ns0))
        refine own_callV (W := 0) X86 hx hZ (y := (⟨"com/example/restate/restate/Citation", "end", "()I"⟩ : MethodName)) (z := (⟨"com/example/restate/restate/Citation", "end", "()I"⟩ : MethodName)) hown (own_w hw 55 rfl) (own_w hw 56 rfl) (notFace_of_selects (args := #[]) (mvT hZ (own_w hw 58 rfl))) (own_w hw 58 rfl) (own_w hw 57 rfl) (own_w hw 37 rfl) (own_w hw 59 rfl) (by decide) (by rw [hml]; rfl) (argsL := []) pd_7 rfl (a := b79) rfl E86 (rm9 l Z a0 hw [] b79 p2 b63 2 cs T86.heap n0 sz86 S_cs_87 hcs Fs86 Fl86 HS2) (by decide) (by decide) (Nat.le_of_eq rfl) (by decide) (by decide) (rest := []) rfl (hb hby at_174) ?_
        intro v88 T88 L88 X88 hQ88
        obtain ⟨rfl, N88q, e88⟩ := hQ88
        have N88 := Fr.app N86 N88q
        show own_Go p e below _ T88 (mkF m 177 #[.val (.int p1), .val (.int p2), .val (.int p3), .val (.int p4), .val (.int p5), .val (.int p6), .val (.int ca), .val (.int cb), .val (.int cc), .val (.int (2 : Int32)), .val (.int mq), .val (.ref b63), .val (.ref a_UNCLEAR), .val (.ref b79)] [(.int (p2 + (2 : Int32)))])
        refine own_by (fun t_ k_ => XS.iloadN X88.here hx rfl (hb hby at_177) rfl k_) ?_
        show own_Go p e below _ T88 (mkF m 178 #[.val (.int p1), .val (.int p2), .val (.int p3), .val (.int p4), .val (.int p5), .val (.int p6), .val (.int ca), .val (.int cb), .val (.int cc), .val (.int (2 : Int32)), .val (.int mq), .val (.ref b63), .val (.ref a_UNCLEAR), .val (.ref b79)] [(.int p2), (.int (p2 + (2 : Int32)))])
        refine own_by (fun t_ k_ => XS.iload X88.here hx rfl (hb hby at_178) rfl k_) ?_
        show own_Go p e below _ T88 (mkF m 180 #[.val (.int p1), .val (.int p2), .val (.int p3), .val (.int p4), .val (.int p5), .val (.int p6), .val (.int ca), .val (.int cb), .val (.int cc), .val (.int (2 : Int32)), .val (.int mq), .val (.ref b63), .val (.ref a_UNCLEAR), .val (.ref b79)] [(.int (2 : Int32)), (.int p2), (.int (p2 + (2 : Int32)))])
        refine own_by (fun t_ k_ => XS.iadd X88.here hx rfl (hb hby at_180) rfl k_) ?_
        show own_Go p e below _ T88 (mkF m 181 #[.val (.int p1), .val (.int p2), .val (.int p3), .val (.int p4), .val (.int p5), .val (.int p6), .val (.int ca), .val (.int cb), .val (.int cc), .val (.int (2 : Int32)), .val (.int mq), .val (.ref b63), .val (.ref a_UNCLEAR), .val (.ref b79)] [(.int (p2 + (2 : Int32))), (.int (p2 + (2 : Int32)))])
        refine own_icmp X88 hx 188 (hb hby at_181) (by decide) (by decide) (fun hc => absurd (show (p2 + (2 : Int32)) = (p2 + (2 : Int32)) from rfl) (by first | exact hc | exact not_not_intro hc)) (fun _ => ?_)
        show own_Go p e below _ T88 (mkF m 184 #[.val (.int p1), .val (.int p2), .val (.int p3), .val (.int p4), .val (.int p5), .val (.int p6), .val (.int ca), .val (.int cb), .val (.int cc), .val (.int (2 : Int32)), .val (.int mq), .val (.ref b63), .val (.ref a_UNCLEAR), .val (.ref b79)] [])
        refine own_by (fun t_ k_ => XS.iconst X88.here hx rfl (hb hby at_184) k_) ?_
        show own_Go p e below _ T88 (mkF m 185 #[.val (.int p1), .val (.int p2), .val (.int p3), .val (.int p4), .val (.int p5), .val (.int p6), .val (.int ca), .val (.int cb), .val (.int cc), .val (.int (2 : Int32)), .val (.int mq), .val (.ref b63), .val (.ref a_UNCLEAR), .val (.ref b79)] [(.int (1 : Int32))])
        refine own_by (fun t_ k_ => XS.goto X88.here hx rfl (pc0 := 185) (pc' := 189) rfl (hb hby at_185) (by decide) (by decide) k_) ?_
        show own_Go p e below _ T88 (mkF m 189 #[.val (.int p1), .val (.int p2), .val (.int p3), .val (.int p4), .val (.int p5), .val (.int p6), .val (.int ca), .val (.int cb), .val (.int cc), .val (.int (2 : Int32)), .val (.int mq), .val (.ref b63), .val (.ref a_UNCLEAR), .val (.ref b79)] [(.int (1 : Int32))])
        refine own_retZw X88 hx hS0 (Nat.le_trans (Nat.le_trans (Nat.le_trans (Nat.le_trans (Nat.le_trans (Nat.le_trans (Nat.le_trans hk0 E63.1) E66.1) (Keep.of_wr W67).1) (Keep.of_wr W68).1) K76q.1) E79.1) K86q.1) hlk Bd.returns (by decide) (hb hby at_189) e88 (by decide) (by decide) ?_
        exact ⟨rfl, N88⟩
      · show own_Go p e below _ T76 (mkF m 144 #[.val (.int p1), .val (.int p2), .val (.int p3), .val (.int p4), .val (.int p5), .val (.int p6), .val (.int ca), .val (.int cb), .val (.int cc), .val (.int (2 : Int32)), .val (.int mq), .val (.ref b63), .unset, .unset] [])
        have S_OTHER_90 : Sta Z T76.heap "com/example/restate/restate/Citation$Reading" "OTHER" "Lcom/example/restate/restate/Citation$Reading;" (.ref a_OTHER) := (own_Sta_keep (Sta.wr W68 (Sta.wr W67 (Sta.ext E66 (Sta.ext E63 S_OTHER)))) K76q (nsS (own_nosE A63_69) ns0))
        refine own_getS X76 hx hZ hown (own_w hw 105 rfl) Via.refl rfl S_OTHER_90 (hb hby at_144) ?_
        intro T89 X89 e89
        show own_Go p e below _ T89 (mkF m 147 #[.val (.int p1), .val (.int p2), .val (.int p3), .val (.int p4), .val (.int p5), .val (.int p6), .val (.int ca), .val (.int cb), .val (.int cc), .val (.int (2 : Int32)), .val (.int mq), .val (.ref b63), .unset, .unset] [(.ref a_OTHER)])
        refine own_by (fun t_ k_ => XS.astore X89.here hx rfl (hb hby at_147) rfl rfl (l' := #[.val (.int p1), .val (.int p2), .val (.int p3), .val (.int p4), .val (.int p5), .val (.int p6), .val (.int ca), .val (.int cb), .val (.int cc), .val (.int (2 : Int32)), .val (.int mq), .val (.ref b63), .val (.ref a_OTHER), .unset]) rfl k_) ?_
        show own_Go p e below _ T89 (mkF m 149 #[.val (.int p1), .val (.int p2), .val (.int p3), .val (.int p4), .val (.int p5), .val (.int p6), .val (.int ca), .val (.int cb), .val (.int cc), .val (.int (2 : Int32)), .val (.int mq), .val (.ref b63), .val (.ref a_OTHER), .unset] [])
        refine own_by (fun t_ k_ => XS.goto X89.here hx rfl (pc0 := 149) (pc' := 157) rfl (hb hby at_149) (by decide) (by decide) k_) ?_
        show own_Go p e below _ T89 (mkF m 157 #[.val (.int p1), .val (.int p2), .val (.int p3), .val (.int p4), .val (.int p5), .val (.int p6), .val (.int ca), .val (.int cb), .val (.int cc), .val (.int (2 : Int32)), .val (.int mq), .val (.ref b63), .val (.ref a_OTHER), .unset] [])
        refine own_newO X89 hx hZ hown (own_w hw 35 rfl) (own_w hw 36 rfl) (own_w hw 37 rfl) e89 (hb hby at_157) (by decide) (by decide) ?_
        intro T91 h91 b91 X91 e91 g91 E91 A91 D91
        have A63_92 : Exa Z T76.heap b63 "java/lang/String" := (Exa.keep A63_69 K76q)
        have lt_b63_b91 : b63 < b91 := Nat.lt_of_lt_of_le A63_92.lt (Nat.le_of_eq g91.symm)
        have V68_93 : own_Arr Z T76.heap b66 .char [(.int ca), (.int cb)] := (own_Arr.keep V68_0 K76q (ninS (Ne.symm (Nat.ne_of_lt lt_b63_b66)) nin0))
        have lt_b66_b91 : b66 < b91 := Nat.lt_of_lt_of_le V68_93.lt (Nat.le_of_eq g91.symm)
        have g_b91 : n0 ≤ b91 := Nat.le_trans sz76 (Nat.le_of_eq g91.symm)
        have sz91 : n0 ≤ h91.size := Nat.le_trans sz76 E91.1
        have F94_0 : Fld Z h91 b91 "com/example/restate/restate/Citation" "paragraph" "I" (.int (0 : Int32)) := D91 (Or.inr (own_w hw 48 rfl)) (ty := .int) (by decide)
        have F95_0 : Fld Z h91 b91 "com/example/restate/restate/Citation" "start" "I" (.int (0 : Int32)) := D91 (Or.inr (own_w hw 50 rfl)) (ty := .int) (by decide)
        have F96_0 : Fld Z h91 b91 "com/example/restate/restate/Citation" "label" "Ljava/lang/String;" .null := D91 (Or.inr (own_w hw 52 rfl)) (ty := (.object "java/lang/String")) (by decide)
        have F97_0 : Fld Z h91 b91 "com/example/restate/restate/Citation" "reading" "Lcom/example/restate/restate/Citation$Reading;" .null := D91 (Or.inr (own_w hw 54 rfl)) (ty := (.object "com/example/restate/restate/Citation$Reading")) (by decide)
        show own_Go p e below _ T91 (mkF m 160 #[.val (.int p1), .val (.int p2), .val (.int p3), .val (.int p4), .val (.int p5), .val (.int p6), .val (.int ca), .val (.int cb), .val (.int cc), .val (.int (2 : Int32)), .val (.int mq), .val (.ref b63), .val (.ref a_OTHER), .unset] [(.ref b91)])
        refine own_by (fun t_ k_ => XS.dup X91.here hx rfl (hb hby at_160) rfl rfl k_) ?_
        show own_Go p e below _ T91 (mkF m 161 #[.val (.int p1), .val (.int p2), .val (.int p3), .val (.int p4), .val (.int p5), .val (.int p6), .val (.int ca), .val (.int cb), .val (.int cc), .val (.int (2 : Int32)), .val (.int mq), .val (.ref b63), .val (.ref a_OTHER), .unset] [(.ref b91), (.ref b91)])
        refine own_by (fun t_ k_ => XS.iloadN X91.here hx rfl (hb hby at_161) rfl k_) ?_
        show own_Go p e below _ T91 (mkF m 162 #[.val (.int p1), .val (.int p2), .val (.int p3), .val (.int p4), .val (.int p5), .val (.int p6), .val (.int ca), .val (.int cb), .val (.int cc), .val (.int (2 : Int32)), .val (.int mq), .val (.ref b63), .val (.ref a_OTHER), .unset] [(.int p1), (.ref b91), (.ref b91)])
        refine own_by (fun t_ k_ => XS.iloadN X91.here hx rfl (hb hby at_162) rfl k_) ?_
        show own_Go p e below _ T91 (mkF m 163 #[.val (.int p1), .val (.int p2), .val (.int p3), .val (.int p4), .val (.int p5), .val (.int p6), .val (.int ca), .val (.int cb), .val (.int cc), .val (.int (2 : Int32)), .val (.int mq), .val (.ref b63), .val (.ref a_OTHER), .unset] [(.int p2), (.int p1), (.ref b91), (.ref b91)])
        refine own_by (fun t_ k_ => XS.aload X91.here hx rfl (hb hby at_163) rfl rfl k_) ?_
        show own_Go p e below _ T91 (mkF m 165 #[.val (.int p1), .val (.int p2), .val (.int p3), .val (.int p4), .val (.int p5), .val (.int p6), .val (.int ca), .val (.int cb), .val (.int cc), .val (.int (2 : Int32)), .val (.int mq), .val (.ref b63), .val (.ref a_OTHER), .unset] [(.ref b63), (.int p2), (.int p1), (.ref b91), (.ref b91)])
        refine own_by (fun t_ k_ => XS.aload X91.here hx rfl (hb hby at_165) rfl rfl k_) ?_
        show own_Go p e below _ T91 (mkF m 167 #[.val (.int p1), .val (.int p2), .val (.int p3), .val (.int p4), .val (.int p5), .val (.int p6), .val (.int ca), .val (.int cb), .val (.int cc), .val (.int (2 : Int32)), .val (.int mq), .val (.ref b63), .val (.ref a_OTHER), .unset] [(.ref a_OTHER), (.ref b63), (.int p2), (.int p1), (.ref b91), (.ref b91)])
        have HS1 : own_S Z h91 b63 2 := (own_S.ext HS E91)
        refine own_callC (W := 1) X91 hx hZ (y := (⟨"com/example/restate/restate/Citation", "<init>", "(IILjava/lang/String;Lcom/example/restate/restate/Citation$Reading;)V"⟩ : MethodName)) rfl hown (own_w hw 38 rfl) (own_w hw 39 rfl) (own_w hw 37 rfl) (own_w hw 40 rfl) (by decide) (by rw [hml]; rfl) (argsL := [(.int p1), (.int p2), (.ref b63), (.ref a_OTHER)]) pd_6 rfl (a := b91) (rm7 l Z a0 hw [] b91 p1 p2 b63 a_OTHER h91 n0 sz91 A91 F94_0 F95_0 F96_0 F97_0 g_b91) (by decide) (by decide) (Nat.le_of_eq rfl) (by decide) (by decide) (rest := [(.ref b91)]) e91 rfl (hb hby at_167) ?_
        intro v98 T98 L98 X98 hQ98
        obtain ⟨rfl, N98q, K98q, E98, Fs98, Fl98⟩ := hQ98
        have N98 := Fr.app N76 N98q
        have sz98 : n0 ≤ T98.heap.size := Nat.le_trans sz91 K98q.1
        have HS2 : own_S Z T98.heap b63 2 := HS1.keep K98q A91 (own_w hw 36 rfl) (by decide)
        show own_Go p e below _ T98 (mkF m 170 #[.val (.int p1), .val (.int p2), .val (.int p3), .val (.int p4), .val (.int p5), .val (.int p6), .val (.int ca), .val (.int cb), .val (.int cc), .val (.int (2 : Int32)), .val (.int mq), .val (.ref b63), .val (.ref a_OTHER), .unset] [(.ref b91)])
        refine own_by (fun t_ k_ => XS.astore X98.here hx rfl (hb hby at_170) rfl rfl (l' := #[.val (.int p1), .val (.int p2), .val (.int p3), .val (.int p4), .val (.int p5), .val (.int p6), .val (.int ca), .val (.int cb), .val (.int cc), .val (.int (2 : Int32)), .val (.int mq), .val (.ref b63), .val (.ref a_OTHER), .val (.ref b91)]) rfl k_) ?_
        show own_Go p e below _ T98 (mkF m 172 #[.val (.int p1), .val (.int p2), .val (.int p3), .val (.int p4), .val (.int p5), .val (.int p6), .val (.int ca), .val (.int cb), .val (.int cc), .val (.int (2 : Int32)), .val (.int mq), .val (.ref b63), .val (.ref a_OTHER), .val (.ref b91)] [])
        refine own_by (fun t_ k_ => XS.aload X98.here hx rfl (hb hby at_172) rfl rfl k_) ?_
        show own_Go p e below _ T98 (mkF m 174 #[.val (.int p1), .val (.int p2), .val (.int p3), .val (.int p4), .val (.int p5), .val (.int p6), .val (.int ca), .val (.int cb), .val (.int cc), .val (.int (2 : Int32)), .val (.int mq), .val (.ref b63), .val (.ref a_OTHER), .val (.ref b91)] [(.ref b91)])
        have S_cs_99 : Sta Z T98.heap "java/lang/String" "COMPACT_STRINGS" "Z" (.int cs) := (own_Sta_keep (Sta.ext E91 (own_Sta_keep S_cs_72 K76q (nsS (own_nosE A63_69) ns0))) K98q (nsS (own_nosE A91) ns0))
        refine own_callV (W := 0) X98 hx hZ (y := (⟨"com/example/restate/restate/Citation", "end", "()I"⟩ : MethodName)) (z := (⟨"com/example/restate/restate/Citation", "end", "()I"⟩ : MethodName)) hown (own_w hw 55 rfl) (own_w hw 56 rfl) (notFace_of_selects (args := #[]) (mvT hZ (own_w hw 58 rfl))) (own_w hw 58 rfl) (own_w hw 57 rfl) (own_w hw 37 rfl) (own_w hw 59 rfl) (by decide) (by rw [hml]; rfl) (argsL := []) pd_7 rfl (a := b91) rfl E98 (rm9 l Z a0 hw [] b91 p2 b63 2 cs T98.heap n0 sz98 S_cs_99 hcs Fs98 Fl98 HS2) (by decide) (by decide) (Nat.le_of_eq rfl) (by decide) (by decide) (rest := []) rfl (hb hby at_174) ?_
        intro v100 T100 L100 X100 hQ100
        obtain ⟨rfl, N100q, e100⟩ := hQ100
        have N100 := Fr.app N98 N100q
        show own_Go p e below _ T100 (mkF m 177 #[.val (.int p1), .val (.int p2), .val (.int p3), .val (.int p4), .val (.int p5), .val (.int p6), .val (.int ca), .val (.int cb), .val (.int cc), .val (.int (2 : Int32)), .val (.int mq), .val (.ref b63), .val (.ref a_OTHER), .val (.ref b91)] [(.int (p2 + (2 : Int32)))])
        refine own_by (fun t_ k_ => XS.iloadN X100.here hx rfl (hb hby at_177) rfl k_) ?_
        show own_Go p e below _ T100 (mkF m 178 #[.val (.int p1), .val (.int p2), .val (.int p3), .val (.int p4), .val (.int p5), .val (.int p6), .val (.int ca), .val (.int cb), .val (.int cc), .val (.int (2 : Int32)), .val (.int mq), .val (.ref b63), .val (.ref a_OTHER), .val (.ref b91)] [(.int p2), (.int (p2 + (2 : Int32)))])
        refine own_by (fun t_ k_ => XS.iload X100.here hx rfl (hb hby at_178) rfl k_) ?_
        show own_Go p e below _ T100 (mkF m 180 #[.val (.int p1), .val (.int p2), .val (.int p3), .val (.int p4), .val (.int p5), .val (.int p6), .val (.int ca), .val (.int cb), .val (.int cc), .val (.int (2 : Int32)), .val (.int mq), .val (.ref b63), .val (.ref a_OTHER), .val (.ref b91)] [(.int (2 : Int32)), (.int p2), (.int (p2 + (2 : Int32)))])
        refine own_by (fun t_ k_ => XS.iadd X100.here hx rfl (hb hby at_180) rfl k_) ?_
        show own_Go p e below _ T100 (mkF m 181 #[.val (.int p1), .val (.int p2), .val (.int p3), .val (.int p4), .val (.int p5), .val (.int p6), .val (.int ca), .val (.int cb), .val (.int cc), .val (.int (2 : Int32)), .val (.int mq), .val (.ref b63), .val (.ref a_OTHER), .val (.ref b91)] [(.int (p2 + (2 : Int32))), (.int (p2 + (2 : Int32)))])
        refine own_icmp X100 hx 188 (hb hby at_181) (by decide) (by decide) (fun hc => absurd (show (p2 + (2 : Int32)) = (p2 + (2 : Int32)) from rfl) (by first | exact hc | exact not_not_intro hc)) (fun _ => ?_)
        show own_Go p e below _ T100 (mkF m 184 #[.val (.int p1), .val (.int p2), .val (.int p3), .val (.int p4), .val (.int p5), .val (.int p6), .val (.int ca), .val (.int cb), .val (.int cc), .val (.int (2 : Int32)), .val (.int mq), .val (.ref b63), .val (.ref a_OTHER), .val (.ref b91)] [])
        refine own_by (fun t_ k_ => XS.iconst X100.here hx rfl (hb hby at_184) k_) ?_
        show own_Go p e below _ T100 (mkF m 185 #[.val (.int p1), .val (.int p2), .val (.int p3), .val (.int p4), .val (.int p5), .val (.int p6), .val (.int ca), .val (.int cb), .val (.int cc), .val (.int (2 : Int32)), .val (.int mq), .val (.ref b63), .val (.ref a_OTHER), .val (.ref b91)] [(.int (1 : Int32))])
        refine own_by (fun t_ k_ => XS.goto X100.here hx rfl (pc0 := 185) (pc' := 189) rfl (hb hby at_185) (by decide) (by decide) k_) ?_
        show own_Go p e below _ T100 (mkF m 189 #[.val (.int p1), .val (.int p2), .val (.int p3), .val (.int p4), .val (.int p5), .val (.int p6), .val (.int ca), .val (.int cb), .val (.int cc), .val (.int (2 : Int32)), .val (.int mq), .val (.ref b63), .val (.ref a_OTHER), .val (.ref b91)] [(.int (1 : Int32))])
        refine own_retZw X100 hx hS0 (Nat.le_trans (Nat.le_trans (Nat.le_trans (Nat.le_trans (Nat.le_trans (Nat.le_trans (Nat.le_trans hk0 E63.1) E66.1) (Keep.of_wr W67).1) (Keep.of_wr W68).1) K76q.1) E91.1) K98q.1) hlk Bd.returns (by decide) (hb hby at_189) e100 (by decide) (by decide) ?_
        exact ⟨rfl, N100⟩
    · show own_Go p e below _ T76 (mkF m 130 #[.val (.int p1), .val (.int p2), .val (.int p3), .val (.int p4), .val (.int p5), .val (.int p6), .val (.int ca), .val (.int cb), .val (.int cc), .val (.int (2 : Int32)), .val (.int mq), .val (.ref b63), .unset, .unset] [])
      have S_OWN_102 : Sta Z T76.heap "com/example/restate/restate/Citation$Reading" "OWN" "Lcom/example/restate/restate/Citation$Reading;" (.ref a_OWN) := (own_Sta_keep (Sta.wr W68 (Sta.wr W67 (Sta.ext E66 (Sta.ext E63 S_OWN)))) K76q (nsS (own_nosE A63_69) ns0))
      refine own_getS X76 hx hZ hown (own_w hw 32 rfl) Via.refl rfl S_OWN_102 (hb hby at_130) ?_
      intro T101 X101 e101
      show own_Go p e below _ T101 (mkF m 133 #[.val (.int p1), .val (.int p2), .val (.int p3), .val (.int p4), .val (.int p5), .val (.int p6), .val (.int ca), .val (.int cb), .val (.int cc), .val (.int (2 : Int32)), .val (.int mq), .val (.ref b63), .unset, .unset] [(.ref a_OWN)])
      refine own_by (fun t_ k_ => XS.astore X101.here hx rfl (hb hby at_133) rfl rfl (l' := #[.val (.int p1), .val (.int p2), .val (.int p3), .val (.int p4), .val (.int p5), .val (.int p6), .val (.int ca), .val (.int cb), .val (.int cc), .val (.int (2 : Int32)), .val (.int mq), .val (.ref b63), .val (.ref a_OWN), .unset]) rfl k_) ?_
      show own_Go p e below _ T101 (mkF m 135 #[.val (.int p1), .val (.int p2), .val (.int p3), .val (.int p4), .val (.int p5), .val (.int p6), .val (.int ca), .val (.int cb), .val (.int cc), .val (.int (2 : Int32)), .val (.int mq), .val (.ref b63), .val (.ref a_OWN), .unset] [])
      refine own_by (fun t_ k_ => XS.goto X101.here hx rfl (pc0 := 135) (pc' := 157) rfl (hb hby at_135) (by decide) (by decide) k_) ?_
      show own_Go p e below _ T101 (mkF m 157 #[.val (.int p1), .val (.int p2), .val (.int p3), .val (.int p4), .val (.int p5), .val (.int p6), .val (.int ca), .val (.int cb), .val (.int cc), .val (.int (2 : Int32)), .val (.int mq), .val (.ref b63), .val (.ref a_OWN), .unset] [])
      refine own_newO X101 hx hZ hown (own_w hw 35 rfl) (own_w hw 36 rfl) (own_w hw 37 rfl) e101 (hb hby at_157) (by decide) (by decide) ?_
      intro T103 h103 b103 X103 e103 g103 E103 A103 D103
      have A63_104 : Exa Z T76.heap b63 "java/lang/String" := (Exa.keep A63_69 K76q)
      have lt_b63_b103 : b63 < b103 := Nat.lt_of_lt_of_le A63_104.lt (Nat.le_of_eq g103.symm)
      have V68_105 : own_Arr Z T76.heap b66 .char [(.int ca), (.int cb)] := (own_Arr.keep V68_0 K76q (ninS (Ne.symm (Nat.ne_of_lt lt_b63_b66)) nin0))
      have lt_b66_b103 : b66 < b103 := Nat.lt_of_lt_of_le V68_105.lt (Nat.le_of_eq g103.symm)
      have g_b103 : n0 ≤ b103 := Nat.le_trans sz76 (Nat.le_of_eq g103.symm)
      have sz103 : n0 ≤ h103.size := Nat.le_trans sz76 E103.1
      have F106_0 : Fld Z h103 b103 "com/example/restate/restate/Citation" "paragraph" "I" (.int (0 : Int32)) := D103 (Or.inr (own_w hw 48 rfl)) (ty := .int) (by decide)
      have F107_0 : Fld Z h103 b103 "com/example/restate/restate/Citation" "start" "I" (.int (0 : Int32)) := D103 (Or.inr (own_w hw 50 rfl)) (ty := .int) (by decide)
      have F108_0 : Fld Z h103 b103 "com/example/restate/restate/Citation" "label" "Ljava/lang/String;" .null := D103 (Or.inr (own_w hw 52 rfl)) (ty := (.object "java/lang/String")) (by decide)
      have F109_0 : Fld Z h103 b103 "com/example/restate/restate/Citation" "reading" "Lcom/example/restate/restate/Citation$Reading;" .null := D103 (Or.inr (own_w hw 54 rfl)) (ty := (.object "com/example/restate/restate/Citation$Reading")) (by decide)
      show own_Go p e below _ T103 (mkF m 160 #[.val (.int p1), .val (.int p2), .val (.int p3), .val (.int p4), .val (.int p5), .val (.int p6), .val (.int ca), .val (.int cb), .val (.int cc), .val (.int (2 : Int32)), .val (.int mq), .val (.ref b63), .val (.ref a_OWN), .unset] [(.ref b103)])
      refine own_by (fun t_ k_ => XS.dup X103.here hx rfl (hb hby at_160) rfl rfl k_) ?_
      show own_Go p e below _ T103 (mkF m 161 #[.val (.int p1), .val (.int p2), .val (.int p3), .val (.int p4), .val (.int p5), .val (.int p6), .val (.int ca), .val (.int cb), .val (.int cc), .val (.int (2 : Int32)), .val (.int mq), .val (.ref b63), .val (.ref a_OWN), .unset] [(.ref b103), (.ref b103)])
      refine own_by (fun t_ k_ => XS.iloadN X103.here hx rfl (hb hby at_161) rfl k_) ?_
      show own_Go p e below _ T103 (mkF m 162 #[.val (.int p1), .val (.int p2), .val (.int p3), .val (.int p4), .val (.int p5), .val (.int p6), .val (.int ca), .val (.int cb), .val (.int cc), .val (.int (2 : Int32)), .val (.int mq), .val (.ref b63), .val (.ref a_OWN), .unset] [(.int p1), (.ref b103), (.ref b103)])
      refine own_by (fun t_ k_ => XS.iloadN X103.here hx rfl (hb hby at_162) rfl k_) ?_
      show own_Go p e below _ T103 (mkF m 163 #[.val (.int p1), .val (.int p2), .val (.int p3), .val (.int p4), .val (.int p5), .val (.int p6), .val (.int ca), .val (.int cb), .val (.int cc), .val (.int (2 : Int32)), .val (.int mq), .val (.ref b63), .val (.ref a_OWN), .unset] [(.int p2), (.int p1), (.ref b103), (.ref b103)])
      refine own_by (fun t_ k_ => XS.aload X103.here hx rfl (hb hby at_163) rfl rfl k_) ?_
      show own_Go p e below _ T103 (mkF m 165 #[.val (.int p1), .val (.int p2), .val (.int p3), .val (.int p4), .val (.int p5), .val (.int p6), .val (.int ca), .val (.int cb), .val (.int cc), .val (.int (2 : Int32)), .val (.int mq), .val (.ref b63), .val (.ref a_OWN), .unset] [(.ref b63), (.int p2), (.int p1), (.ref b103), (.ref b103)])
      refine own_by (fun t_ k_ => XS.aload X103.here hx rfl (hb hby at_165) rfl rfl k_) ?_
      show own_Go p e below _ T103 (mkF m 167 #[.val (.int p1), .val (.int p2), .val (.int p3), .val (.int p4), .val (.int p5), .val (.int p6), .val (.int ca), .val (.int cb), .val (.int cc), .val (.int (2 : Int32)), .val (.int mq), .val (.ref b63), .val (.ref a_OWN), .unset] [(.ref a_OWN), (.ref b63), (.int p2), (.int p1), (.ref b103), (.ref b103)])
      have HS1 : own_S Z h103 b63 2 := (own_S.ext HS E103)
      refine own_callC (W := 1) X103 hx hZ (y := (⟨"com/example/restate/restate/Citation", "<init>", "(IILjava/lang/String;Lcom/example/restate/restate/Citation$Reading;)V"⟩ : MethodName)) rfl hown (own_w hw 38 rfl) (own_w hw 39 rfl) (own_w hw 37 rfl) (own_w hw 40 rfl) (by decide) (by rw [hml]; rfl) (argsL := [(.int p1), (.int p2), (.ref b63), (.ref a_OWN)]) pd_6 rfl (a := b103) (rm7 l Z a0 hw [] b103 p1 p2 b63 a_OWN h103 n0 sz103 A103 F106_0 F107_0 F108_0 F109_0 g_b103) (by decide) (by decide) (Nat.le_of_eq rfl) (by decide) (by decide) (rest := [(.ref b103)]) e103 rfl (hb hby at_167) ?_
      intro v110 T110 L110 X110 hQ110
      obtain ⟨rfl, N110q, K110q, E110, Fs110, Fl110⟩ := hQ110
      have N110 := Fr.app N76 N110q
      have sz110 : n0 ≤ T110.heap.size := Nat.le_trans sz103 K110q.1
      have HS2 : own_S Z T110.heap b63 2 := HS1.keep K110q A103 (own_w hw 36 rfl) (by decide)
      show own_Go p e below _ T110 (mkF m 170 #[.val (.int p1), .val (.int p2), .val (.int p3), .val (.int p4), .val (.int p5), .val (.int p6), .val (.int ca), .val (.int cb), .val (.int cc), .val (.int (2 : Int32)), .val (.int mq), .val (.ref b63), .val (.ref a_OWN), .unset] [(.ref b103)])
      refine own_by (fun t_ k_ => XS.astore X110.here hx rfl (hb hby at_170) rfl rfl (l' := #[.val (.int p1), .val (.int p2), .val (.int p3), .val (.int p4), .val (.int p5), .val (.int p6), .val (.int ca), .val (.int cb), .val (.int cc), .val (.int (2 : Int32)), .val (.int mq), .val (.ref b63), .val (.ref a_OWN), .val (.ref b103)]) rfl k_) ?_
      show own_Go p e below _ T110 (mkF m 172 #[.val (.int p1), .val (.int p2), .val (.int p3), .val (.int p4), .val (.int p5), .val (.int p6), .val (.int ca), .val (.int cb), .val (.int cc), .val (.int (2 : Int32)), .val (.int mq), .val (.ref b63), .val (.ref a_OWN), .val (.ref b103)] [])
      refine own_by (fun t_ k_ => XS.aload X110.here hx rfl (hb hby at_172) rfl rfl k_) ?_
      show own_Go p e below _ T110 (mkF m 174 #[.val (.int p1), .val (.int p2), .val (.int p3), .val (.int p4), .val (.int p5), .val (.int p6), .val (.int ca), .val (.int cb), .val (.int cc), .val (.int (2 : Int32)), .val (.int mq), .val (.ref b63), .val (.ref a_OWN), .val (.ref b103)] [(.ref b103)])
      have S_cs_111 : Sta Z T110.heap "java/lang/String" "COMPACT_STRINGS" "Z" (.int cs) := (own_Sta_keep (Sta.ext E103 (own_Sta_keep S_cs_72 K76q (nsS (own_nosE A63_69) ns0))) K110q (nsS (own_nosE A103) ns0))
      refine own_callV (W := 0) X110 hx hZ (y := (⟨"com/example/restate/restate/Citation", "end", "()I"⟩ : MethodName)) (z := (⟨"com/example/restate/restate/Citation", "end", "()I"⟩ : MethodName)) hown (own_w hw 55 rfl) (own_w hw 56 rfl) (notFace_of_selects (args := #[]) (mvT hZ (own_w hw 58 rfl))) (own_w hw 58 rfl) (own_w hw 57 rfl) (own_w hw 37 rfl) (own_w hw 59 rfl) (by decide) (by rw [hml]; rfl) (argsL := []) pd_7 rfl (a := b103) rfl E110 (rm9 l Z a0 hw [] b103 p2 b63 2 cs T110.heap n0 sz110 S_cs_111 hcs Fs110 Fl110 HS2) (by decide) (by decide) (Nat.le_of_eq rfl) (by decide) (by decide) (rest := []) rfl (hb hby at_174) ?_
      intro v112 T112 L112 X112 hQ112
      obtain ⟨rfl, N112q, e112⟩ := hQ112
      have N112 := Fr.app N110 N112q
      show own_Go p e below _ T112 (mkF m 177 #[.val (.int p1), .val (.int p2), .val (.int p3), .val (.int p4), .val (.int p5), .val (.int p6), .val (.int ca), .val (.int cb), .val (.int cc), .val (.int (2 : Int32)), .val (.int mq), .val (.ref b63), .val (.ref a_OWN), .val (.ref b103)] [(.int (p2 + (2 : Int32)))])
      refine own_by (fun t_ k_ => XS.iloadN X112.here hx rfl (hb hby at_177) rfl k_) ?_
      show own_Go p e below _ T112 (mkF m 178 #[.val (.int p1), .val (.int p2), .val (.int p3), .val (.int p4), .val (.int p5), .val (.int p6), .val (.int ca), .val (.int cb), .val (.int cc), .val (.int (2 : Int32)), .val (.int mq), .val (.ref b63), .val (.ref a_OWN), .val (.ref b103)] [(.int p2), (.int (p2 + (2 : Int32)))])
      refine own_by (fun t_ k_ => XS.iload X112.here hx rfl (hb hby at_178) rfl k_) ?_
      show own_Go p e below _ T112 (mkF m 180 #[.val (.int p1), .val (.int p2), .val (.int p3), .val (.int p4), .val (.int p5), .val (.int p6), .val (.int ca), .val (.int cb), .val (.int cc), .val (.int (2 : Int32)), .val (.int mq), .val (.ref b63), .val (.ref a_OWN), .val (.ref b103)] [(.int (2 : Int32)), (.int p2), (.int (p2 + (2 : Int32)))])
      refine own_by (fun t_ k_ => XS.iadd X112.here hx rfl (hb hby at_180) rfl k_) ?_
      show own_Go p e below _ T112 (mkF m 181 #[.val (.int p1), .val (.int p2), .val (.int p3), .val (.int p4), .val (.int p5), .val (.int p6), .val (.int ca), .val (.int cb), .val (.int cc), .val (.int (2 : Int32)), .val (.int mq), .val (.ref b63), .val (.ref a_OWN), .val (.ref b103)] [(.int (p2 + (2 : Int32))), (.int (p2 + (2 : Int32)))])
      refine own_icmp X112 hx 188 (hb hby at_181) (by decide) (by decide) (fun hc => absurd (show (p2 + (2 : Int32)) = (p2 + (2 : Int32)) from rfl) (by first | exact hc | exact not_not_intro hc)) (fun _ => ?_)
      show own_Go p e below _ T112 (mkF m 184 #[.val (.int p1), .val (.int p2), .val (.int p3), .val (.int p4), .val (.int p5), .val (.int p6), .val (.int ca), .val (.int cb), .val (.int cc), .val (.int (2 : Int32)), .val (.int mq), .val (.ref b63), .val (.ref a_OWN), .val (.ref b103)] [])
      refine own_by (fun t_ k_ => XS.iconst X112.here hx rfl (hb hby at_184) k_) ?_
      show own_Go p e below _ T112 (mkF m 185 #[.val (.int p1), .val (.int p2), .val (.int p3), .val (.int p4), .val (.int p5), .val (.int p6), .val (.int ca), .val (.int cb), .val (.int cc), .val (.int (2 : Int32)), .val (.int mq), .val (.ref b63), .val (.ref a_OWN), .val (.ref b103)] [(.int (1 : Int32))])
      refine own_by (fun t_ k_ => XS.goto X112.here hx rfl (pc0 := 185) (pc' := 189) rfl (hb hby at_185) (by decide) (by decide) k_) ?_
      show own_Go p e below _ T112 (mkF m 189 #[.val (.int p1), .val (.int p2), .val (.int p3), .val (.int p4), .val (.int p5), .val (.int p6), .val (.int ca), .val (.int cb), .val (.int cc), .val (.int (2 : Int32)), .val (.int mq), .val (.ref b63), .val (.ref a_OWN), .val (.ref b103)] [(.int (1 : Int32))])
      refine own_retZw X112 hx hS0 (Nat.le_trans (Nat.le_trans (Nat.le_trans (Nat.le_trans (Nat.le_trans (Nat.le_trans (Nat.le_trans hk0 E63.1) E66.1) (Keep.of_wr W67).1) (Keep.of_wr W68).1) K76q.1) E103.1) K110q.1) hlk Bd.returns (by decide) (hb hby at_189) e112 (by decide) (by decide) ?_
      exact ⟨rfl, N112⟩
  · show own_Go p e below _ s₁ (mkF m 28 #[.val (.int p1), .val (.int p2), .val (.int p3), .val (.int p4), .val (.int p5), .val (.int p6), .val (.int ca), .val (.int cb), .val (.int cc), .val (.int (3 : Int32)), .unset, .unset, .unset, .unset] [])
    refine own_by (fun t_ k_ => XS.iload X0.here hx rfl (hb hby at_28) rfl k_) ?_
    show own_Go p e below _ s₁ (mkF m 30 #[.val (.int p1), .val (.int p2), .val (.int p3), .val (.int p4), .val (.int p5), .val (.int p6), .val (.int ca), .val (.int cb), .val (.int cc), .val (.int (3 : Int32)), .unset, .unset, .unset, .unset] [(.int p6)])
    refine own_by (fun t_ k_ => XS.iconst X0.here hx rfl (hb hby at_30) k_) ?_
    show own_Go p e below _ s₁ (mkF m 31 #[.val (.int p1), .val (.int p2), .val (.int p3), .val (.int p4), .val (.int p5), .val (.int p6), .val (.int ca), .val (.int cb), .val (.int cc), .val (.int (3 : Int32)), .unset, .unset, .unset, .unset] [(.int (2 : Int32)), (.int p6)])
    refine own_by (fun t_ k_ => XT.iushr X0.here hx rfl (hb hby at_31) rfl k_) ?_
    show own_Go p e below _ s₁ (mkF m 32 #[.val (.int p1), .val (.int p2), .val (.int p3), .val (.int p4), .val (.int p5), .val (.int p6), .val (.int ca), .val (.int cb), .val (.int cc), .val (.int (3 : Int32)), .unset, .unset, .unset, .unset] [(.int (XT.ushr p6 (2 : Int32)))])
    refine own_by (fun t_ k_ => X0.ldcInt hx hown (mvT hZ (own_w hw 1 rfl)) (g := (mkF m 32 #[.val (.int p1), .val (.int p2), .val (.int p3), .val (.int p4), .val (.int p5), .val (.int p6), .val (.int ca), .val (.int cb), .val (.int cc), .val (.int (3 : Int32)), .unset, .unset, .unset, .unset] [(.int (XT.ushr p6 (2 : Int32)))])) rfl (hb hby at_32) _ k_) ?_
    show own_Go p e below _ s₁ (mkF m 34 #[.val (.int p1), .val (.int p2), .val (.int p3), .val (.int p4), .val (.int p5), .val (.int p6), .val (.int ca), .val (.int cb), .val (.int cc), .val (.int (3 : Int32)), .unset, .unset, .unset, .unset] [(.int (2147483647 : Int32)), (.int (XT.ushr p6 (2 : Int32)))])
    refine own_by (fun t_ k_ => XS.iand X0.here hx rfl (hb hby at_34) rfl k_) ?_
    show own_Go p e below _ s₁ (mkF m 35 #[.val (.int p1), .val (.int p2), .val (.int p3), .val (.int p4), .val (.int p5), .val (.int p6), .val (.int ca), .val (.int cb), .val (.int cc), .val (.int (3 : Int32)), .unset, .unset, .unset, .unset] [(.int ((XT.ushr p6 (2 : Int32)) &&& (2147483647 : Int32)))])
    refine own_by (fun t_ k_ => XS.iconst X0.here hx rfl (hb hby at_35) k_) ?_
    show own_Go p e below _ s₁ (mkF m 36 #[.val (.int p1), .val (.int p2), .val (.int p3), .val (.int p4), .val (.int p5), .val (.int p6), .val (.int ca), .val (.int cb), .val (.int cc), .val (.int (3 : Int32)), .unset, .unset, .unset, .unset] [(.int (3 : Int32)), (.int ((XT.ushr p6 (2 : Int32)) &&& (2147483647 : Int32)))])
    refine own_by (fun t_ k_ => iremM X0 hx rfl (hb hby at_36) rfl (by decide) k_) ?_
    show own_Go p e below _ s₁ (mkF m 37 #[.val (.int p1), .val (.int p2), .val (.int p3), .val (.int p4), .val (.int p5), .val (.int p6), .val (.int ca), .val (.int cb), .val (.int cc), .val (.int (3 : Int32)), .unset, .unset, .unset, .unset] [(.int (((XT.ushr p6 (2 : Int32)) &&& (2147483647 : Int32)) % (3 : Int32)))])
    refine own_by (fun t_ k_ => XS.istore X0.here hx rfl (hb hby at_37) rfl (l' := #[.val (.int p1), .val (.int p2), .val (.int p3), .val (.int p4), .val (.int p5), .val (.int p6), .val (.int ca), .val (.int cb), .val (.int cc), .val (.int (3 : Int32)), .val (.int (((XT.ushr p6 (2 : Int32)) &&& (2147483647 : Int32)) % (3 : Int32))), .unset, .unset, .unset]) rfl k_) ?_
    show own_Go p e below _ s₁ (mkF m 39 #[.val (.int p1), .val (.int p2), .val (.int p3), .val (.int p4), .val (.int p5), .val (.int p6), .val (.int ca), .val (.int cb), .val (.int cc), .val (.int (3 : Int32)), .val (.int (((XT.ushr p6 (2 : Int32)) &&& (2147483647 : Int32)) % (3 : Int32))), .unset, .unset, .unset] [])
    generalize h_mq : (((XT.ushr p6 (2 : Int32)) &&& (2147483647 : Int32)) % (3 : Int32)) = mq
    show own_Go p e below _ s₁ (mkF m 39 #[.val (.int p1), .val (.int p2), .val (.int p3), .val (.int p4), .val (.int p5), .val (.int p6), .val (.int ca), .val (.int cb), .val (.int cc), .val (.int (3 : Int32)), .val (.int mq), .unset, .unset, .unset] [])
    refine own_by (fun t_ k_ => XS.iload X0.here hx rfl (hb hby at_39) rfl k_) ?_
    show own_Go p e below _ s₁ (mkF m 41 #[.val (.int p1), .val (.int p2), .val (.int p3), .val (.int p4), .val (.int p5), .val (.int p6), .val (.int ca), .val (.int cb), .val (.int cc), .val (.int (3 : Int32)), .val (.int mq), .unset, .unset, .unset] [(.int (3 : Int32))])
    refine own_if X0 hx 51 (hb hby at_41) (by decide) (by decide) (fun _ => ?_) (fun hc => absurd (show ¬ (3 : Int32) = (0 : Int32) from by decide) (by first | exact hc | exact not_not_intro hc))
    show own_Go p e below _ s₁ (mkF m 51 #[.val (.int p1), .val (.int p2), .val (.int p3), .val (.int p4), .val (.int p5), .val (.int p6), .val (.int ca), .val (.int cb), .val (.int cc), .val (.int (3 : Int32)), .val (.int mq), .unset, .unset, .unset] [])
    refine own_by (fun t_ k_ => XS.iload X0.here hx rfl (hb hby at_51) rfl k_) ?_
    show own_Go p e below _ s₁ (mkF m 53 #[.val (.int p1), .val (.int p2), .val (.int p3), .val (.int p4), .val (.int p5), .val (.int p6), .val (.int ca), .val (.int cb), .val (.int cc), .val (.int (3 : Int32)), .val (.int mq), .unset, .unset, .unset] [(.int (3 : Int32))])
    refine own_by (fun t_ k_ => XS.iconst X0.here hx rfl (hb hby at_53) k_) ?_
    show own_Go p e below _ s₁ (mkF m 54 #[.val (.int p1), .val (.int p2), .val (.int p3), .val (.int p4), .val (.int p5), .val (.int p6), .val (.int ca), .val (.int cb), .val (.int cc), .val (.int (3 : Int32)), .val (.int mq), .unset, .unset, .unset] [(.int (1 : Int32)), (.int (3 : Int32))])
    refine own_icmp X0 hx 67 (hb hby at_54) (by decide) (by decide) (fun _ => ?_) (fun hc => absurd (show ¬ (3 : Int32) = (1 : Int32) from by decide) (by first | exact hc | exact not_not_intro hc))
    show own_Go p e below _ s₁ (mkF m 67 #[.val (.int p1), .val (.int p2), .val (.int p3), .val (.int p4), .val (.int p5), .val (.int p6), .val (.int ca), .val (.int cb), .val (.int cc), .val (.int (3 : Int32)), .val (.int mq), .unset, .unset, .unset] [])
    refine own_by (fun t_ k_ => XS.iload X0.here hx rfl (hb hby at_67) rfl k_) ?_
    show own_Go p e below _ s₁ (mkF m 69 #[.val (.int p1), .val (.int p2), .val (.int p3), .val (.int p4), .val (.int p5), .val (.int p6), .val (.int ca), .val (.int cb), .val (.int cc), .val (.int (3 : Int32)), .val (.int mq), .unset, .unset, .unset] [(.int (3 : Int32))])
    refine own_by (fun t_ k_ => XS.iconst X0.here hx rfl (hb hby at_69) k_) ?_
    show own_Go p e below _ s₁ (mkF m 70 #[.val (.int p1), .val (.int p2), .val (.int p3), .val (.int p4), .val (.int p5), .val (.int p6), .val (.int ca), .val (.int cb), .val (.int cc), .val (.int (3 : Int32)), .val (.int mq), .unset, .unset, .unset] [(.int (2 : Int32)), (.int (3 : Int32))])
    refine own_icmp X0 hx 98 (hb hby at_70) (by decide) (by decide) (fun _ => ?_) (fun hc => absurd (show ¬ (3 : Int32) = (2 : Int32) from by decide) (by first | exact hc | exact not_not_intro hc))
    show own_Go p e below _ s₁ (mkF m 98 #[.val (.int p1), .val (.int p2), .val (.int p3), .val (.int p4), .val (.int p5), .val (.int p6), .val (.int ca), .val (.int cb), .val (.int cc), .val (.int (3 : Int32)), .val (.int mq), .unset, .unset, .unset] [])
    refine own_newO X0 hx hZ hown (own_w hw 2 rfl) (own_w hw 3 rfl) (own_w hw 4 rfl) e0 (hb hby at_98) (by decide) (by decide) ?_
    intro T113 h113 b113 X113 e113 g113 E113 A113 D113
    have g_b113 : n0 ≤ b113 := Nat.le_trans Z0 (Nat.le_of_eq g113.symm)
    have sz113 : n0 ≤ h113.size := Nat.le_trans Z0 E113.1
    have F114_0 : Fld Z h113 b113 "java/lang/String" "coder" "B" (.int (0 : Int32)) := D113 (Or.inr (own_w hw 29 rfl)) (ty := .byte) (by decide)
    have F115_0 : Fld Z h113 b113 "java/lang/String" "value" "[B" .null := D113 (Or.inr (own_w hw 31 rfl)) (ty := (.array .byte)) (by decide)
    show own_Go p e below _ T113 (mkF m 101 #[.val (.int p1), .val (.int p2), .val (.int p3), .val (.int p4), .val (.int p5), .val (.int p6), .val (.int ca), .val (.int cb), .val (.int cc), .val (.int (3 : Int32)), .val (.int mq), .unset, .unset, .unset] [(.ref b113)])
    refine own_by (fun t_ k_ => XS.dup X113.here hx rfl (hb hby at_101) rfl rfl k_) ?_
    show own_Go p e below _ T113 (mkF m 102 #[.val (.int p1), .val (.int p2), .val (.int p3), .val (.int p4), .val (.int p5), .val (.int p6), .val (.int ca), .val (.int cb), .val (.int cc), .val (.int (3 : Int32)), .val (.int mq), .unset, .unset, .unset] [(.ref b113), (.ref b113)])
    refine own_by (fun t_ k_ => XS.iconst X113.here hx rfl (hb hby at_102) k_) ?_
    show own_Go p e below _ T113 (mkF m 103 #[.val (.int p1), .val (.int p2), .val (.int p3), .val (.int p4), .val (.int p5), .val (.int p6), .val (.int ca), .val (.int cb), .val (.int cc), .val (.int (3 : Int32)), .val (.int mq), .unset, .unset, .unset] [(.int (3 : Int32)), (.ref b113), (.ref b113)])
    refine own_newP X113 hx hZ (own_w hw 5 rfl) e113 (hb hby at_103) 3 3 (by decide) (by decide) (by decide) (by decide) (by decide) ?_
    intro T116 h116 b116 X116 e116 g116 E116 A116
    have lt_b113_b116 : b113 < b116 := Nat.lt_of_lt_of_le A113.lt (Nat.le_of_eq g116.symm)
    have g_b116 : n0 ≤ b116 := Nat.le_trans sz113 (Nat.le_of_eq g116.symm)
    have sz116 : n0 ≤ h116.size := Nat.le_trans sz113 E116.1
    have V116_0 : own_Arr Z h116 b116 .char [(.int (0 : Int32)), (.int (0 : Int32)), (.int (0 : Int32))] := A116
    show own_Go p e below _ T116 (mkF m 105 #[.val (.int p1), .val (.int p2), .val (.int p3), .val (.int p4), .val (.int p5), .val (.int p6), .val (.int ca), .val (.int cb), .val (.int cc), .val (.int (3 : Int32)), .val (.int mq), .unset, .unset, .unset] [(.ref b116), (.ref b113), (.ref b113)])
    refine own_by (fun t_ k_ => XS.dup X116.here hx rfl (hb hby at_105) rfl rfl k_) ?_
    show own_Go p e below _ T116 (mkF m 106 #[.val (.int p1), .val (.int p2), .val (.int p3), .val (.int p4), .val (.int p5), .val (.int p6), .val (.int ca), .val (.int cb), .val (.int cc), .val (.int (3 : Int32)), .val (.int mq), .unset, .unset, .unset] [(.ref b116), (.ref b116), (.ref b113), (.ref b113)])
    refine own_by (fun t_ k_ => XS.iconst X116.here hx rfl (hb hby at_106) k_) ?_
    show own_Go p e below _ T116 (mkF m 107 #[.val (.int p1), .val (.int p2), .val (.int p3), .val (.int p4), .val (.int p5), .val (.int p6), .val (.int ca), .val (.int cb), .val (.int cc), .val (.int (3 : Int32)), .val (.int mq), .unset, .unset, .unset] [(.int (0 : Int32)), (.ref b116), (.ref b116), (.ref b113), (.ref b113)])
    refine own_by (fun t_ k_ => XS.iload X116.here hx rfl (hb hby at_107) rfl k_) ?_
    show own_Go p e below _ T116 (mkF m 109 #[.val (.int p1), .val (.int p2), .val (.int p3), .val (.int p4), .val (.int p5), .val (.int p6), .val (.int ca), .val (.int cb), .val (.int cc), .val (.int (3 : Int32)), .val (.int mq), .unset, .unset, .unset] [(.int ca), (.int (0 : Int32)), (.ref b116), (.ref b116), (.ref b113), (.ref b113)])
    refine own_castoreN X116 hx hZ e116 V116_0 (own_nar ok_ca) 0 (by decide) (Nat.le_of_ble_eq_true rfl) (hb hby at_109) ?_
    intro T117 h117 X117 e117 W117 A117
    have V117_0 : own_Arr Z h117 b116 .char [(.int ca), (.int (0 : Int32)), (.int (0 : Int32))] := A117
    have N117 := Fr.snoc X117 N0 g_b116
    have sz117 : n0 ≤ h117.size := Nat.le_trans sz116 (Keep.of_wr W117).1
    show own_Go p e below _ T117 (mkF m 110 #[.val (.int p1), .val (.int p2), .val (.int p3), .val (.int p4), .val (.int p5), .val (.int p6), .val (.int ca), .val (.int cb), .val (.int cc), .val (.int (3 : Int32)), .val (.int mq), .unset, .unset, .unset] [(.ref b116), (.ref b113), (.ref b113)])
    refine own_by (fun t_ k_ => XS.dup X117.here hx rfl (hb hby at_110) rfl rfl k_) ?_
    show own_Go p e below _ T117 (mkF m 111 #[.val (.int p1), .val (.int p2), .val (.int p3), .val (.int p4), .val (.int p5), .val (.int p6), .val (.int ca), .val (.int cb), .val (.int cc), .val (.int (3 : Int32)), .val (.int mq), .unset, .unset, .unset] [(.ref b116), (.ref b116), (.ref b113), (.ref b113)])
    refine own_by (fun t_ k_ => XS.iconst X117.here hx rfl (hb hby at_111) k_) ?_
    show own_Go p e below _ T117 (mkF m 112 #[.val (.int p1), .val (.int p2), .val (.int p3), .val (.int p4), .val (.int p5), .val (.int p6), .val (.int ca), .val (.int cb), .val (.int cc), .val (.int (3 : Int32)), .val (.int mq), .unset, .unset, .unset] [(.int (1 : Int32)), (.ref b116), (.ref b116), (.ref b113), (.ref b113)])
    refine own_by (fun t_ k_ => XS.iload X117.here hx rfl (hb hby at_112) rfl k_) ?_
    show own_Go p e below _ T117 (mkF m 114 #[.val (.int p1), .val (.int p2), .val (.int p3), .val (.int p4), .val (.int p5), .val (.int p6), .val (.int ca), .val (.int cb), .val (.int cc), .val (.int (3 : Int32)), .val (.int mq), .unset, .unset, .unset] [(.int cb), (.int (1 : Int32)), (.ref b116), (.ref b116), (.ref b113), (.ref b113)])
    refine own_castoreN X117 hx hZ e117 V117_0 (own_nar ok_cb) 1 (by decide) (Nat.le_of_ble_eq_true rfl) (hb hby at_114) ?_
    intro T118 h118 X118 e118 W118 A118
    have V118_0 : own_Arr Z h118 b116 .char [(.int ca), (.int cb), (.int (0 : Int32))] := A118
    have N118 := Fr.snoc X118 N117 g_b116
    have sz118 : n0 ≤ h118.size := Nat.le_trans sz117 (Keep.of_wr W118).1
    show own_Go p e below _ T118 (mkF m 115 #[.val (.int p1), .val (.int p2), .val (.int p3), .val (.int p4), .val (.int p5), .val (.int p6), .val (.int ca), .val (.int cb), .val (.int cc), .val (.int (3 : Int32)), .val (.int mq), .unset, .unset, .unset] [(.ref b116), (.ref b113), (.ref b113)])
    refine own_by (fun t_ k_ => XS.dup X118.here hx rfl (hb hby at_115) rfl rfl k_) ?_
    show own_Go p e below _ T118 (mkF m 116 #[.val (.int p1), .val (.int p2), .val (.int p3), .val (.int p4), .val (.int p5), .val (.int p6), .val (.int ca), .val (.int cb), .val (.int cc), .val (.int (3 : Int32)), .val (.int mq), .unset, .unset, .unset] [(.ref b116), (.ref b116), (.ref b113), (.ref b113)])
    refine own_by (fun t_ k_ => XS.iconst X118.here hx rfl (hb hby at_116) k_) ?_
    show own_Go p e below _ T118 (mkF m 117 #[.val (.int p1), .val (.int p2), .val (.int p3), .val (.int p4), .val (.int p5), .val (.int p6), .val (.int ca), .val (.int cb), .val (.int cc), .val (.int (3 : Int32)), .val (.int mq), .unset, .unset, .unset] [(.int (2 : Int32)), (.ref b116), (.ref b116), (.ref b113), (.ref b113)])
    refine own_by (fun t_ k_ => XS.iload X118.here hx rfl (hb hby at_117) rfl k_) ?_
    show own_Go p e below _ T118 (mkF m 119 #[.val (.int p1), .val (.int p2), .val (.int p3), .val (.int p4), .val (.int p5), .val (.int p6), .val (.int ca), .val (.int cb), .val (.int cc), .val (.int (3 : Int32)), .val (.int mq), .unset, .unset, .unset] [(.int cc), (.int (2 : Int32)), (.ref b116), (.ref b116), (.ref b113), (.ref b113)])
    refine own_castoreN X118 hx hZ e118 V118_0 (own_nar ok_cc) 2 (by decide) (Nat.le_of_ble_eq_true rfl) (hb hby at_119) ?_
    intro T119 h119 X119 e119 W119 A119
    have V119_0 : own_Arr Z h119 b116 .char [(.int ca), (.int cb), (.int cc)] := A119
    have N119 := Fr.snoc X119 N118 g_b116
    have sz119 : n0 ≤ h119.size := Nat.le_trans sz118 (Keep.of_wr W119).1
    show own_Go p e below _ T119 (mkF m 120 #[.val (.int p1), .val (.int p2), .val (.int p3), .val (.int p4), .val (.int p5), .val (.int p6), .val (.int ca), .val (.int cb), .val (.int cc), .val (.int (3 : Int32)), .val (.int mq), .unset, .unset, .unset] [(.ref b116), (.ref b113), (.ref b113)])
    have A113_120 : Exa Z h119 b113 "java/lang/String" := (Exa.wr W119 (Exa.wr W118 (Exa.wr W117 (Exa.ext E116 A113))))
    have F115_121 : Fld Z h119 b113 "java/lang/String" "value" "[B" .null := (Fld.other W119 (Fld.other W118 (Fld.other W117 (Fld.ext E116 F115_0) (Or.inl (Nat.ne_of_lt lt_b113_b116))) (Or.inl (Nat.ne_of_lt lt_b113_b116))) (Or.inl (Nat.ne_of_lt lt_b113_b116)))
    have F114_122 : Fld Z h119 b113 "java/lang/String" "coder" "B" (.int (0 : Int32)) := (Fld.other W119 (Fld.other W118 (Fld.other W117 (Fld.ext E116 F114_0) (Or.inl (Nat.ne_of_lt lt_b113_b116))) (Or.inl (Nat.ne_of_lt lt_b113_b116))) (Or.inl (Nat.ne_of_lt lt_b113_b116)))
    have S_cs_123 : Sta Z h119 "java/lang/String" "COMPACT_STRINGS" "Z" (.int cs) := (Sta.wr W119 (Sta.wr W118 (Sta.wr W117 (Sta.ext E116 (Sta.ext E113 S_cs)))))
    have S_ad_124 : Sta Z h119 "java/lang/StringUTF16" "$assertionsDisabled" "Z" (.int (1 : Int32)) := (Sta.wr W119 (Sta.wr W118 (Sta.wr W117 (Sta.ext E116 (Sta.ext E113 S_ad)))))
    have S_hb_125 : Sta Z h119 "java/lang/StringUTF16" "HI_BYTE_SHIFT" "I" (.int (0 : Int32)) := (Sta.wr W119 (Sta.wr W118 (Sta.wr W117 (Sta.ext E116 (Sta.ext E113 S_hb)))))
    have S_lb_126 : Sta Z h119 "java/lang/StringUTF16" "LO_BYTE_SHIFT" "I" (.int (8 : Int32)) := (Sta.wr W119 (Sta.wr W118 (Sta.wr W117 (Sta.ext E116 (Sta.ext E113 S_lb)))))
    refine own_callC (W := 1) X119 hx hZ (y := (⟨"java/lang/String", "<init>", "([C)V"⟩ : MethodName)) rfl hown (own_w hw 6 rfl) (own_w hw 7 rfl) (own_w hw 4 rfl) (own_w hw 8 rfl) (by decide) (by rw [hml]; rfl) (argsL := [(.ref b116)]) pd_0 rfl (a := b113) (rm1_3 l Z a0 hw [] b113 b116 ca cb cc cs h119 n0 sz119 A113_120 F115_121 F114_122 g_b113 S_cs_123 hcs S_ad_124 S_hb_125 S_lb_126 V119_0 ok_ca ok_cb ok_cc) (by decide) (by decide) (Nat.le_of_eq rfl) (by decide) (by decide) (rest := [(.ref b113)]) e119 rfl (hb hby at_120) ?_
    intro v127 T127 L127 X127 hQ127
    obtain ⟨rfl, N127q, K127q, HS⟩ := hQ127
    have N127 := Fr.app N119 N127q
    have sz127 : n0 ≤ T127.heap.size := Nat.le_trans sz119 K127q.1
    show own_Go p e below _ T127 (mkF m 123 #[.val (.int p1), .val (.int p2), .val (.int p3), .val (.int p4), .val (.int p5), .val (.int p6), .val (.int ca), .val (.int cb), .val (.int cc), .val (.int (3 : Int32)), .val (.int mq), .unset, .unset, .unset] [(.ref b113)])
    refine own_by (fun t_ k_ => XS.astore X127.here hx rfl (hb hby at_123) rfl rfl (l' := #[.val (.int p1), .val (.int p2), .val (.int p3), .val (.int p4), .val (.int p5), .val (.int p6), .val (.int ca), .val (.int cb), .val (.int cc), .val (.int (3 : Int32)), .val (.int mq), .val (.ref b113), .unset, .unset]) rfl k_) ?_
    show own_Go p e below _ T127 (mkF m 125 #[.val (.int p1), .val (.int p2), .val (.int p3), .val (.int p4), .val (.int p5), .val (.int p6), .val (.int ca), .val (.int cb), .val (.int cc), .val (.int (3 : Int32)), .val (.int mq), .val (.ref b113), .unset, .unset] [])
    refine own_by (fun t_ k_ => XS.iload X127.here hx rfl (hb hby at_125) rfl k_) ?_
    show own_Go p e below _ T127 (mkF m 127 #[.val (.int p1), .val (.int p2), .val (.int p3), .val (.int p4), .val (.int p5), .val (.int p6), .val (.int ca), .val (.int cb), .val (.int cc), .val (.int (3 : Int32)), .val (.int mq), .val (.ref b113), .unset, .unset] [(.int mq)])
    refine own_if X127 hx 138 (hb hby at_127) (by decide) (by decide) (fun (hc127 : ¬ mq = (0 : Int32)) => ?_) (fun (hc127 : mq = (0 : Int32)) => ?_)
    · show own_Go p e below _ T127 (mkF m 138 #[.val (.int p1), .val (.int p2), .val (.int p3), .val (.int p4), .val (.int p5), .val (.int p6), .val (.int ca), .val (.int cb), .val (.int cc), .val (.int (3 : Int32)), .val (.int mq), .val (.ref b113), .unset, .unset] [])
      refine own_by (fun t_ k_ => XS.iload X127.here hx rfl (hb hby at_138) rfl k_) ?_
      show own_Go p e below _ T127 (mkF m 140 #[.val (.int p1), .val (.int p2), .val (.int p3), .val (.int p4), .val (.int p5), .val (.int p6), .val (.int ca), .val (.int cb), .val (.int cc), .val (.int (3 : Int32)), .val (.int mq), .val (.ref b113), .unset, .unset] [(.int mq)])
      refine own_by (fun t_ k_ => XS.iconst X127.here hx rfl (hb hby at_140) k_) ?_
      show own_Go p e below _ T127 (mkF m 141 #[.val (.int p1), .val (.int p2), .val (.int p3), .val (.int p4), .val (.int p5), .val (.int p6), .val (.int ca), .val (.int cb), .val (.int cc), .val (.int (3 : Int32)), .val (.int mq), .val (.ref b113), .unset, .unset] [(.int (1 : Int32)), (.int mq)])
      refine own_icmp X127 hx 152 (hb hby at_141) (by decide) (by decide) (fun (hc141 : ¬ mq = (1 : Int32)) => ?_) (fun (hc141 : mq = (1 : Int32)) => ?_)
      · show own_Go p e below _ T127 (mkF m 152 #[.val (.int p1), .val (.int p2), .val (.int p3), .val (.int p4), .val (.int p5), .val (.int p6), .val (.int ca), .val (.int cb), .val (.int cc), .val (.int (3 : Int32)), .val (.int mq), .val (.ref b113), .unset, .unset] [])
        have S_UNCLEAR_129 : Sta Z T127.heap "com/example/restate/restate/Citation$Reading" "UNCLEAR" "Lcom/example/restate/restate/Citation$Reading;" (.ref a_UNCLEAR) := (own_Sta_keep (Sta.wr W119 (Sta.wr W118 (Sta.wr W117 (Sta.ext E116 (Sta.ext E113 S_UNCLEAR))))) K127q (nsS (own_nosE A113_120) ns0))
        refine own_getS X127 hx hZ hown (own_w hw 84 rfl) Via.refl rfl S_UNCLEAR_129 (hb hby at_152) ?_
        intro T128 X128 e128
        show own_Go p e below _ T128 (mkF m 155 #[.val (.int p1), .val (.int p2), .val (.int p3), .val (.int p4), .val (.int p5), .val (.int p6), .val (.int ca), .val (.int cb), .val (.int cc), .val (.int (3 : Int32)), .val (.int mq), .val (.ref b113), .unset, .unset] [(.ref a_UNCLEAR)])
        refine own_by (fun t_ k_ => XS.astore X128.here hx rfl (hb hby at_155) rfl rfl (l' := #[.val (.int p1), .val (.int p2), .val (.int p3), .val (.int p4), .val (.int p5), .val (.int p6), .val (.int ca), .val (.int cb), .val (.int cc), .val (.int (3 : Int32)), .val (.int mq), .val (.ref b113), .val (.ref a_UNCLEAR), .unset]) rfl k_) ?_
        show own_Go p e below _ T128 (mkF m 157 #[.val (.int p1), .val (.int p2), .val (.int p3), .val (.int p4), .val (.int p5), .val (.int p6), .val (.int ca), .val (.int cb), .val (.int cc), .val (.int (3 : Int32)), .val (.int mq), .val (.ref b113), .val (.ref a_UNCLEAR), .unset] [])
        refine own_newO X128 hx hZ hown (own_w hw 35 rfl) (own_w hw 36 rfl) (own_w hw 37 rfl) e128 (hb hby at_157) (by decide) (by decide) ?_
        intro T130 h130 b130 X130 e130 g130 E130 A130 D130
        have A113_131 : Exa Z T127.heap b113 "java/lang/String" := (Exa.keep A113_120 K127q)
        have lt_b113_b130 : b113 < b130 := Nat.lt_of_lt_of_le A113_131.lt (Nat.le_of_eq g130.symm)
        have V119_132 : own_Arr Z T127.heap b116 .char [(.int ca), (.int cb), (.int cc)] := (own_Arr.keep V119_0 K127q (ninS (Ne.symm (Nat.ne_of_lt lt_b113_b116)) nin0))
        have lt_b116_b130 : b116 < b130 := Nat.lt_of_lt_of_le V119_132.lt (Nat.le_of_eq g130.symm)
        have g_b130 : n0 ≤ b130 := Nat.le_trans sz127 (Nat.le_of_eq g130.symm)
        have sz130 : n0 ≤ h130.size := Nat.le_trans sz127 E130.1
        have F133_0 : Fld Z h130 b130 "com/example/restate/restate/Citation" "paragraph" "I" (.int (0 : Int32)) := D130 (Or.inr (own_w hw 48 rfl)) (ty := .int) (by decide)
        have F134_0 : Fld Z h130 b130 "com/example/restate/restate/Citation" "start" "I" (.int (0 : Int32)) := D130 (Or.inr (own_w hw 50 rfl)) (ty := .int) (by decide)
        have F135_0 : Fld Z h130 b130 "com/example/restate/restate/Citation" "label" "Ljava/lang/String;" .null := D130 (Or.inr (own_w hw 52 rfl)) (ty := (.object "java/lang/String")) (by decide)
        have F136_0 : Fld Z h130 b130 "com/example/restate/restate/Citation" "reading" "Lcom/example/restate/restate/Citation$Reading;" .null := D130 (Or.inr (own_w hw 54 rfl)) (ty := (.object "com/example/restate/restate/Citation$Reading")) (by decide)
        show own_Go p e below _ T130 (mkF m 160 #[.val (.int p1), .val (.int p2), .val (.int p3), .val (.int p4), .val (.int p5), .val (.int p6), .val (.int ca), .val (.int cb), .val (.int cc), .val (.int (3 : Int32)), .val (.int mq), .val (.ref b113), .val (.ref a_UNCLEAR), .unset] [(.ref b130)])
        refine own_by (fun t_ k_ => XS.dup X130.here hx rfl (hb hby at_160) rfl rfl k_) ?_
        show own_Go p e below _ T130 (mkF m 161 #[.val (.int p1), .val (.int p2), .val (.int p3), .val (.int p4), .val (.int p5), .val (.int p6), .val (.int ca), .val (.int cb), .val (.int cc), .val (.int (3 : Int32)), .val (.int mq), .val (.ref b113), .val (.ref a_UNCLEAR), .unset] [(.ref b130), (.ref b130)])
        refine own_by (fun t_ k_ => XS.iloadN X130.here hx rfl (hb hby at_161) rfl k_) ?_
        show own_Go p e below _ T130 (mkF m 162 #[.val (.int p1), .val (.int p2), .val (.int p3), .val (.int p4), .val (.int p5), .val (.int p6), .val (.int ca), .val (.int cb), .val (.int cc), .val (.int (3 : Int32)), .val (.int mq), .val (.ref b113), .val (.ref a_UNCLEAR), .unset] [(.int p1), (.ref b130), (.ref b130)])
        refine own_by (fun t_ k_ => XS.iloadN X130.here hx rfl (hb hby at_162) rfl k_) ?_
        show own_Go p e below _ T130 (mkF m 163 #[.val (.int p1), .val (.int p2), .val (.int p3), .val (.int p4), .val (.int p5), .val (.int p6), .val (.int ca), .val (.int cb), .val (.int cc), .val (.int (3 : Int32)), .val (.int mq), .val (.ref b113), .val (.ref a_UNCLEAR), .unset] [(.int p2), (.int p1), (.ref b130), (.ref b130)])
        refine own_by (fun t_ k_ => XS.aload X130.here hx rfl (hb hby at_163) rfl rfl k_) ?_
        show own_Go p e below _ T130 (mkF m 165 #[.val (.int p1), .val (.int p2), .val (.int p3), .val (.int p4), .val (.int p5), .val (.int p6), .val (.int ca), .val (.int cb), .val (.int cc), .val (.int (3 : Int32)), .val (.int mq), .val (.ref b113), .val (.ref a_UNCLEAR), .unset] [(.ref b113), (.int p2), (.int p1), (.ref b130), (.ref b130)])
        refine own_by (fun t_ k_ => XS.aload X130.here hx rfl (hb hby at_165) rfl rfl k_) ?_
        show own_Go p e below _ T130 (mkF m 167 #[.val (.int p1), .val (.int p2), .val (.int p3), .val (.int p4), .val (.int p5), .val (.int p6), .val (.int ca), .val (.int cb), .val (.int cc), .val (.int (3 : Int32)), .val (.int mq), .val (.ref b113), .val (.ref a_UNCLEAR), .unset] [(.ref a_UNCLEAR), (.ref b113), (.int p2), (.int p1), (.ref b130), (.ref b130)])
        have HS1 : own_S Z h130 b113 3 := (own_S.ext HS E130)
        refine own_callC (W := 1) X130 hx hZ (y := (⟨"com/example/restate/restate/Citation", "<init>", "(IILjava/lang/String;Lcom/example/restate/restate/Citation$Reading;)V"⟩ : MethodName)) rfl hown (own_w hw 38 rfl) (own_w hw 39 rfl) (own_w hw 37 rfl) (own_w hw 40 rfl) (by decide) (by rw [hml]; rfl) (argsL := [(.int p1), (.int p2), (.ref b113), (.ref a_UNCLEAR)]) pd_6 rfl (a := b130) (rm7 l Z a0 hw [] b130 p1 p2 b113 a_UNCLEAR h130 n0 sz130 A130 F133_0 F134_0 F135_0 F136_0 g_b130) (by decide) (by decide) (Nat.le_of_eq rfl) (by decide) (by decide) (rest := [(.ref b130)]) e130 rfl (hb hby at_167) ?_
        intro v137 T137 L137 X137 hQ137
        obtain ⟨rfl, N137q, K137q, E137, Fs137, Fl137⟩ := hQ137
        have N137 := Fr.app N127 N137q
        have sz137 : n0 ≤ T137.heap.size := Nat.le_trans sz130 K137q.1
        have HS2 : own_S Z T137.heap b113 3 := HS1.keep K137q A130 (own_w hw 36 rfl) (by decide)
        show own_Go p e below _ T137 (mkF m 170 #[.val (.int p1), .val (.int p2), .val (.int p3), .val (.int p4), .val (.int p5), .val (.int p6), .val (.int ca), .val (.int cb), .val (.int cc), .val (.int (3 : Int32)), .val (.int mq), .val (.ref b113), .val (.ref a_UNCLEAR), .unset] [(.ref b130)])
        refine own_by (fun t_ k_ => XS.astore X137.here hx rfl (hb hby at_170) rfl rfl (l' := #[.val (.int p1), .val (.int p2), .val (.int p3), .val (.int p4), .val (.int p5), .val (.int p6), .val (.int ca), .val (.int cb), .val (.int cc), .val (.int (3 : Int32)), .val (.int mq), .val (.ref b113), .val (.ref a_UNCLEAR), .val (.ref b130)]) rfl k_) ?_
        show own_Go p e below _ T137 (mkF m 172 #[.val (.int p1), .val (.int p2), .val (.int p3), .val (.int p4), .val (.int p5), .val (.int p6), .val (.int ca), .val (.int cb), .val (.int cc), .val (.int (3 : Int32)), .val (.int mq), .val (.ref b113), .val (.ref a_UNCLEAR), .val (.ref b130)] [])
        refine own_by (fun t_ k_ => XS.aload X137.here hx rfl (hb hby at_172) rfl rfl k_) ?_
        show own_Go p e below _ T137 (mkF m 174 #[.val (.int p1), .val (.int p2), .val (.int p3), .val (.int p4), .val (.int p5), .val (.int p6), .val (.int ca), .val (.int cb), .val (.int cc), .val (.int (3 : Int32)), .val (.int mq), .val (.ref b113), .val (.ref a_UNCLEAR), .val (.ref b130)] [(.ref b130)])
        have S_cs_138 : Sta Z T137.heap "java/lang/String" "COMPACT_STRINGS" "Z" (.int cs) := (own_Sta_keep (Sta.ext E130 (own_Sta_keep S_cs_123 K127q (nsS (own_nosE A113_120) ns0))) K137q (nsS (own_nosE A130) ns0))
        refine own_callV (W := 0) X137 hx hZ (y := (⟨"com/example/restate/restate/Citation", "end", "()I"⟩ : MethodName)) (z := (⟨"com/example/restate/restate/Citation", "end", "()I"⟩ : MethodName)) hown (own_w hw 55 rfl) (own_w hw 56 rfl) (notFace_of_selects (args := #[]) (mvT hZ (own_w hw 58 rfl))) (own_w hw 58 rfl) (own_w hw 57 rfl) (own_w hw 37 rfl) (own_w hw 59 rfl) (by decide) (by rw [hml]; rfl) (argsL := []) pd_7 rfl (a := b130) rfl E137 (rm9 l Z a0 hw [] b130 p2 b113 3 cs T137.heap n0 sz137 S_cs_138 hcs Fs137 Fl137 HS2) (by decide) (by decide) (Nat.le_of_eq rfl) (by decide) (by decide) (rest := []) rfl (hb hby at_174) ?_
        intro v139 T139 L139 X139 hQ139
        obtain ⟨rfl, N139q, e139⟩ := hQ139
        have N139 := Fr.app N137 N139q
        show own_Go p e below _ T139 (mkF m 177 #[.val (.int p1), .val (.int p2), .val (.int p3), .val (.int p4), .val (.int p5), .val (.int p6), .val (.int ca), .val (.int cb), .val (.int cc), .val (.int (3 : Int32)), .val (.int mq), .val (.ref b113), .val (.ref a_UNCLEAR), .val (.ref b130)] [(.int (p2 + (3 : Int32)))])
        refine own_by (fun t_ k_ => XS.iloadN X139.here hx rfl (hb hby at_177) rfl k_) ?_
        show own_Go p e below _ T139 (mkF m 178 #[.val (.int p1), .val (.int p2), .val (.int p3), .val (.int p4), .val (.int p5), .val (.int p6), .val (.int ca), .val (.int cb), .val (.int cc), .val (.int (3 : Int32)), .val (.int mq), .val (.ref b113), .val (.ref a_UNCLEAR), .val (.ref b130)] [(.int p2), (.int (p2 + (3 : Int32)))])
        refine own_by (fun t_ k_ => XS.iload X139.here hx rfl (hb hby at_178) rfl k_) ?_
        show own_Go p e below _ T139 (mkF m 180 #[.val (.int p1), .val (.int p2), .val (.int p3), .val (.int p4), .val (.int p5), .val (.int p6), .val (.int ca), .val (.int cb), .val (.int cc), .val (.int (3 : Int32)), .val (.int mq), .val (.ref b113), .val (.ref a_UNCLEAR), .val (.ref b130)] [(.int (3 : Int32)), (.int p2), (.int (p2 + (3 : Int32)))])
        refine own_by (fun t_ k_ => XS.iadd X139.here hx rfl (hb hby at_180) rfl k_) ?_
        show own_Go p e below _ T139 (mkF m 181 #[.val (.int p1), .val (.int p2), .val (.int p3), .val (.int p4), .val (.int p5), .val (.int p6), .val (.int ca), .val (.int cb), .val (.int cc), .val (.int (3 : Int32)), .val (.int mq), .val (.ref b113), .val (.ref a_UNCLEAR), .val (.ref b130)] [(.int (p2 + (3 : Int32))), (.int (p2 + (3 : Int32)))])
        refine own_icmp X139 hx 188 (hb hby at_181) (by decide) (by decide) (fun hc => absurd (show (p2 + (3 : Int32)) = (p2 + (3 : Int32)) from rfl) (by first | exact hc | exact not_not_intro hc)) (fun _ => ?_)
        show own_Go p e below _ T139 (mkF m 184 #[.val (.int p1), .val (.int p2), .val (.int p3), .val (.int p4), .val (.int p5), .val (.int p6), .val (.int ca), .val (.int cb), .val (.int cc), .val (.int (3 : Int32)), .val (.int mq), .val (.ref b113), .val (.ref a_UNCLEAR), .val (.ref b130)] [])
        refine own_by (fun t_ k_ => XS.iconst X139.here hx rfl (hb hby at_184) k_) ?_
        show own_Go p e below _ T139 (mkF m 185 #[.val (.int p1), .val (.int p2), .val (.int p3), .val (.int p4), .val (.int p5), .val (.int p6), .val (.int ca), .val (.int cb), .val (.int cc), .val (.int (3 : Int32)), .val (.int mq), .val (.ref b113), .val (.ref a_UNCLEAR), .val (.ref b130)] [(.int (1 : Int32))])
        refine own_by (fun t_ k_ => XS.goto X139.here hx rfl (pc0 := 185) (pc' := 189) rfl (hb hby at_185) (by decide) (by decide) k_) ?_
        show own_Go p e below _ T139 (mkF m 189 #[.val (.int p1), .val (.int p2), .val (.int p3), .val (.int p4), .val (.int p5), .val (.int p6), .val (.int ca), .val (.int cb), .val (.int cc), .val (.int (3 : Int32)), .val (.int mq), .val (.ref b113), .val (.ref a_UNCLEAR), .val (.ref b130)] [(.int (1 : Int32))])
        refine own_retZw X139 hx hS0 (Nat.le_trans (Nat.le_trans (Nat.le_trans (Nat.le_trans (Nat.le_trans (Nat.le_trans (Nat.le_trans (Nat.le_trans hk0 E113.1) E116.1) (Keep.of_wr W117).1) (Keep.of_wr W118).1) (Keep.of_wr W119).1) K127q.1) E130.1) K137q.1) hlk Bd.returns (by decide) (hb hby at_189) e139 (by decide) (by decide) ?_
        exact ⟨rfl, N139⟩
      · show own_Go p e below _ T127 (mkF m 144 #[.val (.int p1), .val (.int p2), .val (.int p3), .val (.int p4), .val (.int p5), .val (.int p6), .val (.int ca), .val (.int cb), .val (.int cc), .val (.int (3 : Int32)), .val (.int mq), .val (.ref b113), .unset, .unset] [])
        have S_OTHER_141 : Sta Z T127.heap "com/example/restate/restate/Citation$Reading" "OTHER" "Lcom/example/restate/restate/Citation$Reading;" (.ref a_OTHER) := (own_Sta_keep (Sta.wr W119 (Sta.wr W118 (Sta.wr W117 (Sta.ext E116 (Sta.ext E113 S_OTHER))))) K127q (nsS (own_nosE A113_120) ns0))
        refine own_getS X127 hx hZ hown (own_w hw 105 rfl) Via.refl rfl S_OTHER_141 (hb hby at_144) ?_
        intro T140 X140 e140
        show own_Go p e below _ T140 (mkF m 147 #[.val (.int p1), .val (.int p2), .val (.int p3), .val (.int p4), .val (.int p5), .val (.int p6), .val (.int ca), .val (.int cb), .val (.int cc), .val (.int (3 : Int32)), .val (.int mq), .val (.ref b113), .unset, .unset] [(.ref a_OTHER)])
        refine own_by (fun t_ k_ => XS.astore X140.here hx rfl (hb hby at_147) rfl rfl (l' := #[.val (.int p1), .val (.int p2), .val (.int p3), .val (.int p4), .val (.int p5), .val (.int p6), .val (.int ca), .val (.int cb), .val (.int cc), .val (.int (3 : Int32)), .val (.int mq), .val (.ref b113), .val (.ref a_OTHER), .unset]) rfl k_) ?_
        show own_Go p e below _ T140 (mkF m 149 #[.val (.int p1), .val (.int p2), .val (.int p3), .val (.int p4), .val (.int p5), .val (.int p6), .val (.int ca), .val (.int cb), .val (.int cc), .val (.int (3 : Int32)), .val (.int mq), .val (.ref b113), .val (.ref a_OTHER), .unset] [])
        refine own_by (fun t_ k_ => XS.goto X140.here hx rfl (pc0 := 149) (pc' := 157) rfl (hb hby at_149) (by decide) (by decide) k_) ?_
        show own_Go p e below _ T140 (mkF m 157 #[.val (.int p1), .val (.int p2), .val (.int p3), .val (.int p4), .val (.int p5), .val (.int p6), .val (.int ca), .val (.int cb), .val (.int cc), .val (.int (3 : Int32)), .val (.int mq), .val (.ref b113), .val (.ref a_OTHER), .unset] [])
        refine own_newO X140 hx hZ hown (own_w hw 35 rfl) (own_w hw 36 rfl) (own_w hw 37 rfl) e140 (hb hby at_157) (by decide) (by decide) ?_
        intro T142 h142 b142 X142 e142 g142 E142 A142 D142
        have A113_143 : Exa Z T127.heap b113 "java/lang/String" := (Exa.keep A113_120 K127q)
        have lt_b113_b142 : b113 < b142 := Nat.lt_of_lt_of_le A113_143.lt (Nat.le_of_eq g142.symm)
        have V119_144 : own_Arr Z T127.heap b116 .char [(.int ca), (.int cb), (.int cc)] := (own_Arr.keep V119_0 K127q (ninS (Ne.symm (Nat.ne_of_lt lt_b113_b116)) nin0))
        have lt_b116_b142 : b116 < b142 := Nat.lt_of_lt_of_le V119_144.lt (Nat.le_of_eq g142.symm)
        have g_b142 : n0 ≤ b142 := Nat.le_trans sz127 (Nat.le_of_eq g142.symm)
        have sz142 : n0 ≤ h142.size := Nat.le_trans sz127 E142.1
        have F145_0 : Fld Z h142 b142 "com/example/restate/restate/Citation" "paragraph" "I" (.int (0 : Int32)) := D142 (Or.inr (own_w hw 48 rfl)) (ty := .int) (by decide)
        have F146_0 : Fld Z h142 b142 "com/example/restate/restate/Citation" "start" "I" (.int (0 : Int32)) := D142 (Or.inr (own_w hw 50 rfl)) (ty := .int) (by decide)
        have F147_0 : Fld Z h142 b142 "com/example/restate/restate/Citation" "label" "Ljava/lang/String;" .null := D142 (Or.inr (own_w hw 52 rfl)) (ty := (.object "java/lang/String")) (by decide)
        have F148_0 : Fld Z h142 b142 "com/example/restate/restate/Citation" "reading" "Lcom/example/restate/restate/Citation$Reading;" .null := D142 (Or.inr (own_w hw 54 rfl)) (ty := (.object "com/example/restate/restate/Citation$Reading")) (by decide)
        show own_Go p e below _ T142 (mkF m 160 #[.val (.int p1), .val (.int p2), .val (.int p3), .val (.int p4), .val (.int p5), .val (.int p6), .val (.int ca), .val (.int cb), .val (.int cc), .val (.int (3 : Int32)), .val (.int mq), .val (.ref b113), .val (.ref a_OTHER), .unset] [(.ref b142)])
        refine own_by (fun t_ k_ => XS.dup X142.here hx rfl (hb hby at_160) rfl rfl k_) ?_
        show own_Go p e below _ T142 (mkF m 161 #[.val (.int p1), .val (.int p2), .val (.int p3), .val (.int p4), .val (.int p5), .val (.int p6), .val (.int ca), .val (.int cb), .val (.int cc), .val (.int (3 : Int32)), .val (.int mq), .val (.ref b113), .val (.ref a_OTHER), .unset] [(.ref b142), (.ref b142)])
        refine own_by (fun t_ k_ => XS.iloadN X142.here hx rfl (hb hby at_161) rfl k_) ?_
        show own_Go p e below _ T142 (mkF m 162 #[.val (.int p1), .val (.int p2), .val (.int p3), .val (.int p4), .val (.int p5), .val (.int p6), .val (.int ca), .val (.int cb), .val (.int cc), .val (.int (3 : Int32)), .val (.int mq), .val (.ref b113), .val (.ref a_OTHER), .unset] [(.int p1), (.ref b142), (.ref b142)])
        refine own_by (fun t_ k_ => XS.iloadN X142.here hx rfl (hb hby at_162) rfl k_) ?_
        show own_Go p e below _ T142 (mkF m 163 #[.val (.int p1), .val (.int p2), .val (.int p3), .val (.int p4), .val (.int p5), .val (.int p6), .val (.int ca), .val (.int cb), .val (.int cc), .val (.int (3 : Int32)), .val (.int mq), .val (.ref b113), .val (.ref a_OTHER), .unset] [(.int p2), (.int p1), (.ref b142), (.ref b142)])
        refine own_by (fun t_ k_ => XS.aload X142.here hx rfl (hb hby at_163) rfl rfl k_) ?_
        show own_Go p e below _ T142 (mkF m 165 #[.val (.int p1), .val (.int p2), .val (.int p3), .val (.int p4), .val (.int p5), .val (.int p6), .val (.int ca), .val (.int cb), .val (.int cc), .val (.int (3 : Int32)), .val (.int mq), .val (.ref b113), .val (.ref a_OTHER), .unset] [(.ref b113), (.int p2), (.int p1), (.ref b142), (.ref b142)])
        refine own_by (fun t_ k_ => XS.aload X142.here hx rfl (hb hby at_165) rfl rfl k_) ?_
        show own_Go p e below _ T142 (mkF m 167 #[.val (.int p1), .val (.int p2), .val (.int p3), .val (.int p4), .val (.int p5), .val (.int p6), .val (.int ca), .val (.int cb), .val (.int cc), .val (.int (3 : Int32)), .val (.int mq), .val (.ref b113), .val (.ref a_OTHER), .unset] [(.ref a_OTHER), (.ref b113), (.int p2), (.int p1), (.ref b142), (.ref b142)])
        have HS1 : own_S Z h142 b113 3 := (own_S.ext HS E142)
        refine own_callC (W := 1) X142 hx hZ (y := (⟨"com/example/restate/restate/Citation", "<init>", "(IILjava/lang/String;Lcom/example/restate/restate/Citation$Reading;)V"⟩ : MethodName)) rfl hown (own_w hw 38 rfl) (own_w hw 39 rfl) (own_w hw 37 rfl) (own_w hw 40 rfl) (by decide) (by rw [hml]; rfl) (argsL := [(.int p1), (.int p2), (.ref b113), (.ref a_OTHER)]) pd_6 rfl (a := b142) (rm7 l Z a0 hw [] b142 p1 p2 b113 a_OTHER h142 n0 sz142 A142 F145_0 F146_0 F147_0 F148_0 g_b142) (by decide) (by decide) (Nat.le_of_eq rfl) (by decide) (by decide) (rest := [(.ref b142)]) e142 rfl (hb hby at_167) ?_
        intro v149 T149 L149 X149 hQ149
        obtain ⟨rfl, N149q, K149q, E149, Fs149, Fl149⟩ := hQ149
        have N149 := Fr.app N127 N149q
        have sz149 : n0 ≤ T149.heap.size := Nat.le_trans sz142 K149q.1
        have HS2 : own_S Z T149.heap b113 3 := HS1.keep K149q A142 (own_w hw 36 rfl) (by decide)
        show own_Go p e below _ T149 (mkF m 170 #[.val (.int p1), .val (.int p2), .val (.int p3), .val (.int p4), .val (.int p5), .val (.int p6), .val (.int ca), .val (.int cb), .val (.int cc), .val (.int (3 : Int32)), .val (.int mq), .val (.ref b113), .val (.ref a_OTHER), .unset] [(.ref b142)])
        refine own_by (fun t_ k_ => XS.astore X149.here hx rfl (hb hby at_170) rfl rfl (l' := #[.val (.int p1), .val (.int p2), .val (.int p3), .val (.int p4), .val (.int p5), .val (.int p6), .val (.int ca), .val (.int cb), .val (.int cc), .val (.int (3 : Int32)), .val (.int mq), .val (.ref b113), .val (.ref a_OTHER), .val (.ref b142)]) rfl k_) ?_
        show own_Go p e below _ T149 (mkF m 172 #[.val (.int p1), .val (.int p2), .val (.int p3), .val (.int p4), .val (.int p5), .val (.int p6), .val (.int ca), .val (.int cb), .val (.int cc), .val (.int (3 : Int32)), .val (.int mq), .val (.ref b113), .val (.ref a_OTHER), .val (.ref b142)] [])
        refine own_by (fun t_ k_ => XS.aload X149.here hx rfl (hb hby at_172) rfl rfl k_) ?_
        show own_Go p e below _ T149 (mkF m 174 #[.val (.int p1), .val (.int p2), .val (.int p3), .val (.int p4), .val (.int p5), .val (.int p6), .val (.int ca), .val (.int cb), .val (.int cc), .val (.int (3 : Int32)), .val (.int mq), .val (.ref b113), .val (.ref a_OTHER), .val (.ref b142)] [(.ref b142)])
        have S_cs_150 : Sta Z T149.heap "java/lang/String" "COMPACT_STRINGS" "Z" (.int cs) := (own_Sta_keep (Sta.ext E142 (own_Sta_keep S_cs_123 K127q (nsS (own_nosE A113_120) ns0))) K149q (nsS (own_nosE A142) ns0))
        refine own_callV (W := 0) X149 hx hZ (y := (⟨"com/example/restate/restate/Citation", "end", "()I"⟩ : MethodName)) (z := (⟨"com/example/restate/restate/Citation", "end", "()I"⟩ : MethodName)) hown (own_w hw 55 rfl) (own_w hw 56 rfl) (notFace_of_selects (args := #[]) (mvT hZ (own_w hw 58 rfl))) (own_w hw 58 rfl) (own_w hw 57 rfl) (own_w hw 37 rfl) (own_w hw 59 rfl) (by decide) (by rw [hml]; rfl) (argsL := []) pd_7 rfl (a := b142) rfl E149 (rm9 l Z a0 hw [] b142 p2 b113 3 cs T149.heap n0 sz149 S_cs_150 hcs Fs149 Fl149 HS2) (by decide) (by decide) (Nat.le_of_eq rfl) (by decide) (by decide) (rest := []) rfl (hb hby at_174) ?_
        intro v151 T151 L151 X151 hQ151
        obtain ⟨rfl, N151q, e151⟩ := hQ151
        have N151 := Fr.app N149 N151q
        show own_Go p e below _ T151 (mkF m 177 #[.val (.int p1), .val (.int p2), .val (.int p3), .val (.int p4), .val (.int p5), .val (.int p6), .val (.int ca), .val (.int cb), .val (.int cc), .val (.int (3 : Int32)), .val (.int mq), .val (.ref b113), .val (.ref a_OTHER), .val (.ref b142)] [(.int (p2 + (3 : Int32)))])
        refine own_by (fun t_ k_ => XS.iloadN X151.here hx rfl (hb hby at_177) rfl k_) ?_
        show own_Go p e below _ T151 (mkF m 178 #[.val (.int p1), .val (.int p2), .val (.int p3), .val (.int p4), .val (.int p5), .val (.int p6), .val (.int ca), .val (.int cb), .val (.int cc), .val (.int (3 : Int32)), .val (.int mq), .val (.ref b113), .val (.ref a_OTHER), .val (.ref b142)] [(.int p2), (.int (p2 + (3 : Int32)))])
        refine own_by (fun t_ k_ => XS.iload X151.here hx rfl (hb hby at_178) rfl k_) ?_
        show own_Go p e below _ T151 (mkF m 180 #[.val (.int p1), .val (.int p2), .val (.int p3), .val (.int p4), .val (.int p5), .val (.int p6), .val (.int ca), .val (.int cb), .val (.int cc), .val (.int (3 : Int32)), .val (.int mq), .val (.ref b113), .val (.ref a_OTHER), .val (.ref b142)] [(.int (3 : Int32)), (.int p2), (.int (p2 + (3 : Int32)))])
        refine own_by (fun t_ k_ => XS.iadd X151.here hx rfl (hb hby at_180) rfl k_) ?_
        show own_Go p e below _ T151 (mkF m 181 #[.val (.int p1), .val (.int p2), .val (.int p3), .val (.int p4), .val (.int p5), .val (.int p6), .val (.int ca), .val (.int cb), .val (.int cc), .val (.int (3 : Int32)), .val (.int mq), .val (.ref b113), .val (.ref a_OTHER), .val (.ref b142)] [(.int (p2 + (3 : Int32))), (.int (p2 + (3 : Int32)))])
        refine own_icmp X151 hx 188 (hb hby at_181) (by decide) (by decide) (fun hc => absurd (show (p2 + (3 : Int32)) = (p2 + (3 : Int32)) from rfl) (by first | exact hc | exact not_not_intro hc)) (fun _ => ?_)
        show own_Go p e below _ T151 (mkF m 184 #[.val (.int p1), .val (.int p2), .val (.int p3), .val (.int p4), .val (.int p5), .val (.int p6), .val (.int ca), .val (.int cb), .val (.int cc), .val (.int (3 : Int32)), .val (.int mq), .val (.ref b113), .val (.ref a_OTHER), .val (.ref b142)] [])
        refine own_by (fun t_ k_ => XS.iconst X151.here hx rfl (hb hby at_184) k_) ?_
        show own_Go p e below _ T151 (mkF m 185 #[.val (.int p1), .val (.int p2), .val (.int p3), .val (.int p4), .val (.int p5), .val (.int p6), .val (.int ca), .val (.int cb), .val (.int cc), .val (.int (3 : Int32)), .val (.int mq), .val (.ref b113), .val (.ref a_OTHER), .val (.ref b142)] [(.int (1 : Int32))])
        refine own_by (fun t_ k_ => XS.goto X151.here hx rfl (pc0 := 185) (pc' := 189) rfl (hb hby at_185) (by decide) (by decide) k_) ?_
        show own_Go p e below _ T151 (mkF m 189 #[.val (.int p1), .val (.int p2), .val (.int p3), .val (.int p4), .val (.int p5), .val (.int p6), .val (.int ca), .val (.int cb), .val (.int cc), .val (.int (3 : Int32)), .val (.int mq), .val (.ref b113), .val (.ref a_OTHER), .val (.ref b142)] [(.int (1 : Int32))])
        refine own_retZw X151 hx hS0 (Nat.le_trans (Nat.le_trans (Nat.le_trans (Nat.le_trans (Nat.le_trans (Nat.le_trans (Nat.le_trans (Nat.le_trans hk0 E113.1) E116.1) (Keep.of_wr W117).1) (Keep.of_wr W118).1) (Keep.of_wr W119).1) K127q.1) E142.1) K149q.1) hlk Bd.returns (by decide) (hb hby at_189) e151 (by decide) (by decide) ?_
        exact ⟨rfl, N151⟩
    · show own_Go p e below _ T127 (mkF m 130 #[.val (.int p1), .val (.int p2), .val (.int p3), .val (.int p4), .val (.int p5), .val (.int p6), .val (.int ca), .val (.int cb), .val (.int cc), .val (.int (3 : Int32)), .val (.int mq), .val (.ref b113), .unset, .unset] [])
      have S_OWN_153 : Sta Z T127.heap "com/example/restate/restate/Citation$Reading" "OWN" "Lcom/example/restate/restate/Citation$Reading;" (.ref a_OWN) := (own_Sta_keep (Sta.wr W119 (Sta.wr W118 (Sta.wr W117 (Sta.ext E116 (Sta.ext E113 S_OWN))))) K127q (nsS (own_nosE A113_120) ns0))
      refine own_getS X127 hx hZ hown (own_w hw 32 rfl) Via.refl rfl S_OWN_153 (hb hby at_130) ?_
      intro T152 X152 e152
      show own_Go p e below _ T152 (mkF m 133 #[.val (.int p1), .val (.int p2), .val (.int p3), .val (.int p4), .val (.int p5), .val (.int p6), .val (.int ca), .val (.int cb), .val (.int cc), .val (.int (3 : Int32)), .val (.int mq), .val (.ref b113), .unset, .unset] [(.ref a_OWN)])
      refine own_by (fun t_ k_ => XS.astore X152.here hx rfl (hb hby at_133) rfl rfl (l' := #[.val (.int p1), .val (.int p2), .val (.int p3), .val (.int p4), .val (.int p5), .val (.int p6), .val (.int ca), .val (.int cb), .val (.int cc), .val (.int (3 : Int32)), .val (.int mq), .val (.ref b113), .val (.ref a_OWN), .unset]) rfl k_) ?_
      show own_Go p e below _ T152 (mkF m 135 #[.val (.int p1), .val (.int p2), .val (.int p3), .val (.int p4), .val (.int p5), .val (.int p6), .val (.int ca), .val (.int cb), .val (.int cc), .val (.int (3 : Int32)), .val (.int mq), .val (.ref b113), .val (.ref a_OWN), .unset] [])
      refine own_by (fun t_ k_ => XS.goto X152.here hx rfl (pc0 := 135) (pc' := 157) rfl (hb hby at_135) (by decide) (by decide) k_) ?_
      show own_Go p e below _ T152 (mkF m 157 #[.val (.int p1), .val (.int p2), .val (.int p3), .val (.int p4), .val (.int p5), .val (.int p6), .val (.int ca), .val (.int cb), .val (.int cc), .val (.int (3 : Int32)), .val (.int mq), .val (.ref b113), .val (.ref a_OWN), .unset] [])
      refine own_newO X152 hx hZ hown (own_w hw 35 rfl) (own_w hw 36 rfl) (own_w hw 37 rfl) e152 (hb hby at_157) (by decide) (by decide) ?_
      intro T154 h154 b154 X154 e154 g154 E154 A154 D154
      have A113_155 : Exa Z T127.heap b113 "java/lang/String" := (Exa.keep A113_120 K127q)
      have lt_b113_b154 : b113 < b154 := Nat.lt_of_lt_of_le A113_155.lt (Nat.le_of_eq g154.symm)
      have V119_156 : own_Arr Z T127.heap b116 .char [(.int ca), (.int cb), (.int cc)] := (own_Arr.keep V119_0 K127q (ninS (Ne.symm (Nat.ne_of_lt lt_b113_b116)) nin0))
      have lt_b116_b154 : b116 < b154 := Nat.lt_of_lt_of_le V119_156.lt (Nat.le_of_eq g154.symm)
      have g_b154 : n0 ≤ b154 := Nat.le_trans sz127 (Nat.le_of_eq g154.symm)
      have sz154 : n0 ≤ h154.size := Nat.le_trans sz127 E154.1
      have F157_0 : Fld Z h154 b154 "com/example/restate/restate/Citation" "paragraph" "I" (.int (0 : Int32)) := D154 (Or.inr (own_w hw 48 rfl)) (ty := .int) (by decide)
      have F158_0 : Fld Z h154 b154 "com/example/restate/restate/Citation" "start" "I" (.int (0 : Int32)) := D154 (Or.inr (own_w hw 50 rfl)) (ty := .int) (by decide)
      have F159_0 : Fld Z h154 b154 "com/example/restate/restate/Citation" "label" "Ljava/lang/String;" .null := D154 (Or.inr (own_w hw 52 rfl)) (ty := (.object "java/lang/String")) (by decide)
      have F160_0 : Fld Z h154 b154 "com/example/restate/restate/Citation" "reading" "Lcom/example/restate/restate/Citation$Reading;" .null := D154 (Or.inr (own_w hw 54 rfl)) (ty := (.object "com/example/restate/restate/Citation$Reading")) (by decide)
      show own_Go p e below _ T154 (mkF m 160 #[.val (.int p1), .val (.int p2), .val (.int p3), .val (.int p4), .val (.int p5), .val (.int p6), .val (.int ca), .val (.int cb), .val (.int cc), .val (.int (3 : Int32)), .val (.int mq), .val (.ref b113), .val (.ref a_OWN), .unset] [(.ref b154)])
      refine own_by (fun t_ k_ => XS.dup X154.here hx rfl (hb hby at_160) rfl rfl k_) ?_
      show own_Go p e below _ T154 (mkF m 161 #[.val (.int p1), .val (.int p2), .val (.int p3), .val (.int p4), .val (.int p5), .val (.int p6), .val (.int ca), .val (.int cb), .val (.int cc), .val (.int (3 : Int32)), .val (.int mq), .val (.ref b113), .val (.ref a_OWN), .unset] [(.ref b154), (.ref b154)])
      refine own_by (fun t_ k_ => XS.iloadN X154.here hx rfl (hb hby at_161) rfl k_) ?_
      show own_Go p e below _ T154 (mkF m 162 #[.val (.int p1), .val (.int p2), .val (.int p3), .val (.int p4), .val (.int p5), .val (.int p6), .val (.int ca), .val (.int cb), .val (.int cc), .val (.int (3 : Int32)), .val (.int mq), .val (.ref b113), .val (.ref a_OWN), .unset] [(.int p1), (.ref b154), (.ref b154)])
      refine own_by (fun t_ k_ => XS.iloadN X154.here hx rfl (hb hby at_162) rfl k_) ?_
      show own_Go p e below _ T154 (mkF m 163 #[.val (.int p1), .val (.int p2), .val (.int p3), .val (.int p4), .val (.int p5), .val (.int p6), .val (.int ca), .val (.int cb), .val (.int cc), .val (.int (3 : Int32)), .val (.int mq), .val (.ref b113), .val (.ref a_OWN), .unset] [(.int p2), (.int p1), (.ref b154), (.ref b154)])
      refine own_by (fun t_ k_ => XS.aload X154.here hx rfl (hb hby at_163) rfl rfl k_) ?_
      show own_Go p e below _ T154 (mkF m 165 #[.val (.int p1), .val (.int p2), .val (.int p3), .val (.int p4), .val (.int p5), .val (.int p6), .val (.int ca), .val (.int cb), .val (.int cc), .val (.int (3 : Int32)), .val (.int mq), .val (.ref b113), .val (.ref a_OWN), .unset] [(.ref b113), (.int p2), (.int p1), (.ref b154), (.ref b154)])
      refine own_by (fun t_ k_ => XS.aload X154.here hx rfl (hb hby at_165) rfl rfl k_) ?_
      show own_Go p e below _ T154 (mkF m 167 #[.val (.int p1), .val (.int p2), .val (.int p3), .val (.int p4), .val (.int p5), .val (.int p6), .val (.int ca), .val (.int cb), .val (.int cc), .val (.int (3 : Int32)), .val (.int mq), .val (.ref b113), .val (.ref a_OWN), .unset] [(.ref a_OWN), (.ref b113), (.int p2), (.int p1), (.ref b154), (.ref b154)])
      have HS1 : own_S Z h154 b113 3 := (own_S.ext HS E154)
      refine own_callC (W := 1) X154 hx hZ (y := (⟨"com/example/restate/restate/Citation", "<init>", "(IILjava/lang/String;Lcom/example/restate/restate/Citation$Reading;)V"⟩ : MethodName)) rfl hown (own_w hw 38 rfl) (own_w hw 39 rfl) (own_w hw 37 rfl) (own_w hw 40 rfl) (by decide) (by rw [hml]; rfl) (argsL := [(.int p1), (.int p2), (.ref b113), (.ref a_OWN)]) pd_6 rfl (a := b154) (rm7 l Z a0 hw [] b154 p1 p2 b113 a_OWN h154 n0 sz154 A154 F157_0 F158_0 F159_0 F160_0 g_b154) (by decide) (by decide) (Nat.le_of_eq rfl) (by decide) (by decide) (rest := [(.ref b154)]) e154 rfl (hb hby at_167) ?_
      intro v161 T161 L161 X161 hQ161
      obtain ⟨rfl, N161q, K161q, E161, Fs161, Fl161⟩ := hQ161
      have N161 := Fr.app N127 N161q
      have sz161 : n0 ≤ T161.heap.size := Nat.le_trans sz154 K161q.1
      have HS2 : own_S Z T161.heap b113 3 := HS1.keep K161q A154 (own_w hw 36 rfl) (by decide)
      show own_Go p e below _ T161 (mkF m 170 #[.val (.int p1), .val (.int p2), .val (.int p3), .val (.int p4), .val (.int p5), .val (.int p6), .val (.int ca), .val (.int cb), .val (.int cc), .val (.int (3 : Int32)), .val (.int mq), .val (.ref b113), .val (.ref a_OWN), .unset] [(.ref b154)])
      refine own_by (fun t_ k_ => XS.astore X161.here hx rfl (hb hby at_170) rfl rfl (l' := #[.val (.int p1), .val (.int p2), .val (.int p3), .val (.int p4), .val (.int p5), .val (.int p6), .val (.int ca), .val (.int cb), .val (.int cc), .val (.int (3 : Int32)), .val (.int mq), .val (.ref b113), .val (.ref a_OWN), .val (.ref b154)]) rfl k_) ?_
      show own_Go p e below _ T161 (mkF m 172 #[.val (.int p1), .val (.int p2), .val (.int p3), .val (.int p4), .val (.int p5), .val (.int p6), .val (.int ca), .val (.int cb), .val (.int cc), .val (.int (3 : Int32)), .val (.int mq), .val (.ref b113), .val (.ref a_OWN), .val (.ref b154)] [])
      refine own_by (fun t_ k_ => XS.aload X161.here hx rfl (hb hby at_172) rfl rfl k_) ?_
      show own_Go p e below _ T161 (mkF m 174 #[.val (.int p1), .val (.int p2), .val (.int p3), .val (.int p4), .val (.int p5), .val (.int p6), .val (.int ca), .val (.int cb), .val (.int cc), .val (.int (3 : Int32)), .val (.int mq), .val (.ref b113), .val (.ref a_OWN), .val (.ref b154)] [(.ref b154)])
      have S_cs_162 : Sta Z T161.heap "java/lang/String" "COMPACT_STRINGS" "Z" (.int cs) := (own_Sta_keep (Sta.ext E154 (own_Sta_keep S_cs_123 K127q (nsS (own_nosE A113_120) ns0))) K161q (nsS (own_nosE A154) ns0))
      refine own_callV (W := 0) X161 hx hZ (y := (⟨"com/example/restate/restate/Citation", "end", "()I"⟩ : MethodName)) (z := (⟨"com/example/restate/restate/Citation", "end", "()I"⟩ : MethodName)) hown (own_w hw 55 rfl) (own_w hw 56 rfl) (notFace_of_selects (args := #[]) (mvT hZ (own_w hw 58 rfl))) (own_w hw 58 rfl) (own_w hw 57 rfl) (own_w hw 37 rfl) (own_w hw 59 rfl) (by decide) (by rw [hml]; rfl) (argsL := []) pd_7 rfl (a := b154) rfl E161 (rm9 l Z a0 hw [] b154 p2 b113 3 cs T161.heap n0 sz161 S_cs_162 hcs Fs161 Fl161 HS2) (by decide) (by decide) (Nat.le_of_eq rfl) (by decide) (by decide) (rest := []) rfl (hb hby at_174) ?_
      intro v163 T163 L163 X163 hQ163
      obtain ⟨rfl, N163q, e163⟩ := hQ163
      have N163 := Fr.app N161 N163q
      show own_Go p e below _ T163 (mkF m 177 #[.val (.int p1), .val (.int p2), .val (.int p3), .val (.int p4), .val (.int p5), .val (.int p6), .val (.int ca), .val (.int cb), .val (.int cc), .val (.int (3 : Int32)), .val (.int mq), .val (.ref b113), .val (.ref a_OWN), .val (.ref b154)] [(.int (p2 + (3 : Int32)))])
      refine own_by (fun t_ k_ => XS.iloadN X163.here hx rfl (hb hby at_177) rfl k_) ?_
      show own_Go p e below _ T163 (mkF m 178 #[.val (.int p1), .val (.int p2), .val (.int p3), .val (.int p4), .val (.int p5), .val (.int p6), .val (.int ca), .val (.int cb), .val (.int cc), .val (.int (3 : Int32)), .val (.int mq), .val (.ref b113), .val (.ref a_OWN), .val (.ref b154)] [(.int p2), (.int (p2 + (3 : Int32)))])
      refine own_by (fun t_ k_ => XS.iload X163.here hx rfl (hb hby at_178) rfl k_) ?_
      show own_Go p e below _ T163 (mkF m 180 #[.val (.int p1), .val (.int p2), .val (.int p3), .val (.int p4), .val (.int p5), .val (.int p6), .val (.int ca), .val (.int cb), .val (.int cc), .val (.int (3 : Int32)), .val (.int mq), .val (.ref b113), .val (.ref a_OWN), .val (.ref b154)] [(.int (3 : Int32)), (.int p2), (.int (p2 + (3 : Int32)))])
      refine own_by (fun t_ k_ => XS.iadd X163.here hx rfl (hb hby at_180) rfl k_) ?_
      show own_Go p e below _ T163 (mkF m 181 #[.val (.int p1), .val (.int p2), .val (.int p3), .val (.int p4), .val (.int p5), .val (.int p6), .val (.int ca), .val (.int cb), .val (.int cc), .val (.int (3 : Int32)), .val (.int mq), .val (.ref b113), .val (.ref a_OWN), .val (.ref b154)] [(.int (p2 + (3 : Int32))), (.int (p2 + (3 : Int32)))])
      refine own_icmp X163 hx 188 (hb hby at_181) (by decide) (by decide) (fun hc => absurd (show (p2 + (3 : Int32)) = (p2 + (3 : Int32)) from rfl) (by first | exact hc | exact not_not_intro hc)) (fun _ => ?_)
      show own_Go p e below _ T163 (mkF m 184 #[.val (.int p1), .val (.int p2), .val (.int p3), .val (.int p4), .val (.int p5), .val (.int p6), .val (.int ca), .val (.int cb), .val (.int cc), .val (.int (3 : Int32)), .val (.int mq), .val (.ref b113), .val (.ref a_OWN), .val (.ref b154)] [])
      refine own_by (fun t_ k_ => XS.iconst X163.here hx rfl (hb hby at_184) k_) ?_
      show own_Go p e below _ T163 (mkF m 185 #[.val (.int p1), .val (.int p2), .val (.int p3), .val (.int p4), .val (.int p5), .val (.int p6), .val (.int ca), .val (.int cb), .val (.int cc), .val (.int (3 : Int32)), .val (.int mq), .val (.ref b113), .val (.ref a_OWN), .val (.ref b154)] [(.int (1 : Int32))])
      refine own_by (fun t_ k_ => XS.goto X163.here hx rfl (pc0 := 185) (pc' := 189) rfl (hb hby at_185) (by decide) (by decide) k_) ?_
      show own_Go p e below _ T163 (mkF m 189 #[.val (.int p1), .val (.int p2), .val (.int p3), .val (.int p4), .val (.int p5), .val (.int p6), .val (.int ca), .val (.int cb), .val (.int cc), .val (.int (3 : Int32)), .val (.int mq), .val (.ref b113), .val (.ref a_OWN), .val (.ref b154)] [(.int (1 : Int32))])
      refine own_retZw X163 hx hS0 (Nat.le_trans (Nat.le_trans (Nat.le_trans (Nat.le_trans (Nat.le_trans (Nat.le_trans (Nat.le_trans (Nat.le_trans hk0 E113.1) E116.1) (Keep.of_wr W117).1) (Keep.of_wr W118).1) (Keep.of_wr W119).1) K127q.1) E154.1) K161q.1) hlk Bd.returns (by decide) (hb hby at_189) e163 (by decide) (by decide) ?_
      exact ⟨rfl, N163⟩
set_option maxRecDepth 65536 in
set_option maxHeartbeats 40000000 in
theorem comes_1 {Post : Tables → Env → Array Value → State → Outcome → State → Prop} (hpost : ∀ tb e args s v u, (limb_1_1.after args s (.returned v) u = true ∧ limb_1_2.after args s (.returned v) u = true ∧ True) → ReturnedEndW s (.returned v) u (Jvm.fieldLocs frame_1_writes args s ++ Jvm.arrayLocs frame_1_arrays args s ++ Jvm.staticLocs frame_1_statics s) 24 1152 → Post tb e args s (.returned v) u) :
    ArmFor flags0 classFile x code maxLocals ret World_1 tables_1 room_1 Calls_1 rest_1 Pre_1 Post := by
  intro l hfl _ _ p e ha hc hk s m args below hf hA hF happ hP
  obtain ⟨hcalls, hrest, hpre⟩ := hP
  obtain ⟨-, -, -, hnamed, -, -, -, hat⟩ := (Spec.applies_iff hf).mp happ
  obtain ⟨hg, hn⟩ := and_e (Cond.before_iff.mp (show (Jvm.Cond.and given_1 narrow_1).before args s = true from hpre))
  obtain ⟨gc, gr0⟩ := and_e hg
  obtain ⟨ga0, gr1⟩ := and_e gr0
  obtain ⟨ga1, gr2⟩ := and_e gr1
  obtain ⟨ga2, gr3⟩ := and_e gr2
  obtain ⟨ga3, gr4⟩ := and_e gr3
  obtain ⟨ga4, gr5⟩ := and_e gr4
  obtain ⟨w0, w1, w2, w3, w4, w5, rfl⟩ : ∃ w0 w1 w2 w3 w4 w5 : Value, args = #[w0, w1, w2, w3, w4, w5] := by
    have hs : args.size = 6 := by simpa [Cond.value, given_1] using gc
    obtain ⟨L⟩ := args
    match L, hs with
    | [w0, w1, w2, w3, w4, w5], _ => exact ⟨w0, w1, w2, w3, w4, w5, rfl⟩
  have hw := fun d (hd : d ∈ tables_1) => atoms_spec (ws := Jvm.Cond.code x code maxLocals ret :: tables_1) hat d (List.mem_cons_of_mem _ hd)
  have hfit : Fit s := fun {y c} hc i hi => by
    obtain ⟨ha, rfl⟩ := Array.getElem?_eq_some_iff.mp hc
    have q := List.all_eq_true.mp ((Array.all_eq_true_iff_forall_mem.mp hF) _ (Array.getElem_mem ha)) i (List.mem_range.mpr hi)
    simpa [Array.getElem?_eq_getElem hi] using q
  obtain ⟨i0, ei0⟩ := is_v ga0
  obtain rfl : w0 = (.int i0) := Option.some.inj ei0
  obtain ⟨i1, ei1⟩ := is_v ga1
  obtain rfl : w1 = (.int i1) := Option.some.inj ei1
  obtain ⟨i2, ei2⟩ := is_v ga2
  obtain rfl : w2 = (.int i2) := Option.some.inj ei2
  obtain ⟨i3, ei3⟩ := is_v ga3
  obtain rfl : w3 = (.int i3) := Option.some.inj ei3
  obtain ⟨i4, ei4⟩ := is_v ga4
  obtain rfl : w4 = (.int i4) := Option.some.inj ei4
  obtain ⟨i5, ei5⟩ := is_v gr5
  obtain rfl : w5 = (.int i5) := Option.some.inj ei5
  obtain ⟨hN0, hR1⟩ := and_e hn
  obtain ⟨hN1, hR2⟩ := and_e hR1
  have hN2 := hR2
  obtain ⟨a_OWN, ev_OWN⟩ := exa_v hN0
  have E_OWN : Exa s s.heap a_OWN "com/example/restate/restate/Citation$Reading" := Exa.start ev_OWN hN0
  have S_OWN : Sta s s.heap "com/example/restate/restate/Citation$Reading" "OWN" "Lcom/example/restate/restate/Citation$Reading;" (.ref a_OWN) := Sta.start ev_OWN (Or.inr ⟨(own_w hw 33 rfl), (own_w hw 34 rfl)⟩)
  obtain ⟨a_UNCLEAR, ev_UNCLEAR⟩ := exa_v hN1
  have E_UNCLEAR : Exa s s.heap a_UNCLEAR "com/example/restate/restate/Citation$Reading" := Exa.start ev_UNCLEAR hN1
  have S_UNCLEAR : Sta s s.heap "com/example/restate/restate/Citation$Reading" "UNCLEAR" "Lcom/example/restate/restate/Citation$Reading;" (.ref a_UNCLEAR) := Sta.start ev_UNCLEAR (Or.inr ⟨(own_w hw 33 rfl), (own_w hw 85 rfl)⟩)
  obtain ⟨a_OTHER, ev_OTHER⟩ := exa_v hN2
  have E_OTHER : Exa s s.heap a_OTHER "com/example/restate/restate/Citation$Reading" := Exa.start ev_OTHER hN2
  have S_OTHER : Sta s s.heap "com/example/restate/restate/Citation$Reading" "OTHER" "Lcom/example/restate/restate/Citation$Reading;" (.ref a_OTHER) := Sta.start ev_OTHER (Or.inr ⟨(own_w hw 33 rfl), (own_w hw 106 rfl)⟩)
  obtain ⟨hsets, hown0⟩ := atoms_of _ (rest_1_c_eq ▸ (show rest_1_c.before _ s = true from hrest))
  obtain ⟨cs, ecs⟩ := is_v (Cond.before_iff.mp (hsets _ (List.mem_of_getElem? (i := 1) rfl)))
  have S_cs : Sta s s.heap "java/lang/String" "COMPACT_STRINGS" "Z" (.int cs) := Sta.start ecs (Or.inl (hsets _ (List.mem_of_getElem? (i := 0) rfl)))
  have hcs : ¬ cs = 0 := own_notI ecs (Cond.before_iff.mp (hsets _ (List.mem_of_getElem? (i := 2) rfl)))
  have S_ad : Sta s s.heap "java/lang/StringUTF16" "$assertionsDisabled" "Z" (.int (1 : Int32)) := Sta.start (own_eqI (Cond.before_iff.mp (hsets _ (List.mem_of_getElem? (i := 12) rfl)))) (Or.inl (hsets _ (List.mem_of_getElem? (i := 11) rfl)))
  have S_hb : Sta s s.heap "java/lang/StringUTF16" "HI_BYTE_SHIFT" "I" (.int (0 : Int32)) := Sta.start (own_eqI (Cond.before_iff.mp (hsets _ (List.mem_of_getElem? (i := 15) rfl)))) (Or.inl (hsets _ (List.mem_of_getElem? (i := 14) rfl)))
  have S_lb : Sta s s.heap "java/lang/StringUTF16" "LO_BYTE_SHIFT" "I" (.int (8 : Int32)) := Sta.start (own_eqI (Cond.before_iff.mp (hsets _ (List.mem_of_getElem? (i := 18) rfl)))) (Or.inl (hsets _ (List.mem_of_getElem? (i := 17) rfl)))
  have hEL : EW s _ consts_1 := EW.cons (own_w hw 107 rfl) (by decide) EW.nil
  have hCH : CHv s consts_1 s.vm s.heap := CHv.start hEL hcalls.1 (hsets _ (List.mem_of_getElem? (i := 2) rfl)) (own_w hw 21 rfl) (own_w hw 3 rfl)
  obtain ⟨n, o, h1, h2, h3, _, L, rfl, ⟨rfl, N⟩, hq⟩ := rm0 l s _ hw tables_1 i0 i1 i2 i3 i4 i5 cs a_OWN a_UNCLEAR a_OTHER s.heap s.heap.size (Nat.le_refl _) S_cs hcs S_ad S_hb S_lb S_OWN S_UNCLEAR S_OTHER hEL p e ha hc hk s m _ below hf ((Spec.applies_iff_loose hf).mp happ).1 ⟨rfl, State.Warmed39.refl s, rfl, hCH⟩ trivial
  refine ⟨n, _, h1, h2, h3, hpost _ _ _ _ _ _ ⟨Cond.after_iff.mpr rfl, Cond.after_iff.mpr (eq_i res_at (Term.int_eval (1)) rfl), trivial⟩ ⟨hq.1, hq.2.1, hq.2.2.1, (hq.2.2.2.sift fun y hy => Or.inr (N y hy)).mono (by decide) (by decide)⟩⟩
theorem main_1_1 : Claimed_1_1 := comes_1 fun _ _ _ _ _ _ h hF => ⟨h.1, hF⟩
theorem main_1_2 : Claimed_1_2 := comes_1 fun _ _ _ _ _ _ h hF => ⟨h.2.1, hF⟩
end Jvm.Pilot.@@N@@
namespace Jvm.Pilot.@@N@@
open Jvm Jvm.ClassFile Sem Op Lib Jvm.Free Jvm.Stand Jvm.Pilot.@@N@@.Jvm.D
/-! MADE BY PROGRAM (witnessworld.py) out of the Statement's table words and the real class files: 23 classes; the members and pool entries that the words name. The judged class is class 1, her method 1. -/
namespace start1
open Jvm.ClassFile
def u (s : String) : CpInfo := .utf8 (stringToUtf16 s)
/-- a pool by its gaps: so many unusable entries, then the entry; so many at the end -/
def gap : Nat → List CpInfo → List CpInfo
  | 0, r => r
  | n + 1, r => .unusable :: gap n r
def poolList (es : List (Nat × CpInfo)) (last : Nat) : List CpInfo := es.foldr (fun e r => gap e.1 (e.2 :: r)) (gap last [])
def pool (es : List (Nat × CpInfo)) (last : Nat) : Array CpInfo := ⟨poolList es last⟩
def fileOf (pool : Array CpInfo) (this : Nat) (attrs : Array Attribute := #[]) (ms : Array MethodInfo := #[]) (fl : Nat := 33) (sup : Nat := 0) (ifs : Array Nat := #[]) (fds : Array FieldInfo := #[]) : ClassFile where
  minorVersion := 0
  majorVersion := 65
  constantPool := pool
  accessFlags := fl
  thisClass := this
  superClass := sup
  interfaces := ifs
  fields := fds
  methods := ms
  attributes := attrs
def plain (name : String) (sup : Option ClassId) : Class where
  name := name
  kind := .ordinary
  loader := none
  accessFlags := 33
  super := sup
  interfaces := #[]
  cf := none
  fields := #[]
  methods := #[]
  instanceTypes := #[]
  staticTypes := #[]
  resolved := #[]
  callSites := []
  init := .initialized
  statics := none
  mirror := none

def pool0 : Array CpInfo := pool [(5, u "<init>"), (0, u "()V"), (1, .class_ 10), (1, u "java/lang/Object")] 113

def k0c0 : Code := { maxStack := 0, maxLocals := 1, code := object_method_1_code, exceptionTable := #[], attributes := #[] }
def k0m0 : Method := { name := "<init>", desc := "()V", sig := { parameters := [], returnType := none }, accessFlags := 1, code := some k0c0 }
/-- java/lang/Object -/
def k0 : Class := { plain "java/lang/Object" none with
  accessFlags := 33
  interfaces := #[]
  cf := some (fileOf pool0 8 #[] #[{ accessFlags := 1, nameIndex := 5, descriptorIndex := 6, attributes := #[] }] 33 0 #[] #[])
  fields := #[]
  methods := #[k0m0]
  instanceTypes := #[]
  staticTypes := #[]
  resolved := Array.replicate 124 none
  statics := none }

def pool1 : Array CpInfo := pool [(2, .class_ 4), (1, u "java/lang/Object"), (0, u "<init>"), (0, u "()V"), (0, .integer 65535), (0, .integer 2147483647), (0, .string 10), (0, u ""), (0, .methodref 12 13), (0, .class_ 14), (0, .nameAndType 15 16), (0, u "java/lang/String"), (0, u "valueOf"), (0, u "(C)Ljava/lang/String;"), (0, .methodref 12 18), (0, .nameAndType 5 19), (0, u "([C)V"), (0, .fieldref 21 22), (0, .class_ 23), (0, .nameAndType 24 25), (0, u "com/example/restate/restate/Citation$Reading"), (0, u "OWN"), (0, u "Lcom/example/restate/restate/Citation$Reading;"), (0, .fieldref 21 27), (0, .nameAndType 28 25), (0, u "OTHER"), (0, .fieldref 21 30), (0, .nameAndType 31 25), (0, u "UNCLEAR"), (0, .class_ 33), (0, u "com/example/restate/restate/Citation"), (0, .methodref 32 35), (0, .nameAndType 5 36), (0, u "(IILjava/lang/String;Lcom/example/restate/restate/Citation$Reading;)V"), (0, .methodref 32 38), (0, .nameAndType 39 40), (0, u "end"), (0, u "()I"), (0, .class_ 42), (0, u "com/example/restate/restate/CitationEndPinLaw"), (2, u "law"), (0, u "(IIIIII)Z")] 5

def k1m0 : Method := { name := "<init>", desc := "()V", sig := { parameters := [], returnType := none }, accessFlags := 1, code := none }
def k1c1 : Code := { maxStack := 6, maxLocals := 14, code := code, exceptionTable := #[], attributes := #[] }
def k1m1 : Method := { name := "law", desc := "(IIIIII)Z", sig := { parameters := [.int, .int, .int, .int, .int, .int], returnType := some .boolean }, accessFlags := 9, code := some k1c1 }
/-- com/example/restate/restate/CitationEndPinLaw -/
def k1 : Class := { plain "com/example/restate/restate/CitationEndPinLaw" (some 0) with
  accessFlags := 49
  interfaces := #[]
  cf := some (fileOf pool1 41 #[] #[{ accessFlags := 1, nameIndex := 5, descriptorIndex := 6, attributes := #[] }, { accessFlags := 9, nameIndex := 45, descriptorIndex := 46, attributes := #[] }] 49 2 #[] #[])
  fields := #[]
  methods := #[k1m0, k1m1]
  instanceTypes := #[]
  staticTypes := #[]
  resolved := Array.replicate 52 none
  statics := none }

def pool2 : Array CpInfo := pool [(1, .class_ 2), (0, u "java/io/Serializable"), (0, .class_ 4), (0, u "java/lang/Object")] 2

/-- java/io/Serializable -/
def k2 : Class := { plain "java/io/Serializable" (some 0) with
  accessFlags := 1537
  interfaces := #[]
  cf := some (fileOf pool2 1 #[] #[] 1537 3 #[] #[])
  fields := #[]
  methods := #[]
  instanceTypes := #[]
  staticTypes := #[]
  resolved := Array.replicate 7 none
  statics := none }

def pool3 : Array CpInfo := pool [(1, .class_ 2), (0, u "java/lang/Comparable"), (0, .class_ 4), (0, u "java/lang/Object")] 7

/-- java/lang/Comparable -/
def k3 : Class := { plain "java/lang/Comparable" (some 0) with
  accessFlags := 1537
  interfaces := #[]
  cf := some (fileOf pool3 1 #[] #[] 1537 3 #[] #[])
  fields := #[]
  methods := #[]
  instanceTypes := #[]
  staticTypes := #[]
  resolved := Array.replicate 12 none
  statics := none }

def pool4 : Array CpInfo := pool [(2, .class_ 4), (1, u "java/lang/CharSequence"), (42, .class_ 48), (0, u "java/lang/CharSequence$1CodePointIterator"), (10, .class_ 60), (0, u "java/lang/CharSequence$1CharIterator"), (5, .class_ 67), (0, u "java/lang/Object")] 63

/-- java/lang/CharSequence -/
def k4 : Class := { plain "java/lang/CharSequence" (some 0) with
  accessFlags := 1537
  interfaces := #[]
  cf := some (fileOf pool4 2 #[.nestMembers #[47, 59]] #[] 1537 66 #[] #[])
  fields := #[]
  methods := #[]
  instanceTypes := #[]
  staticTypes := #[]
  resolved := Array.replicate 131 none
  statics := none }

def pool5 : Array CpInfo := pool [(1, .class_ 2), (0, u "java/lang/constant/Constable"), (0, .class_ 4), (0, u "java/lang/Object")] 6

/-- java/lang/constant/Constable -/
def k5 : Class := { plain "java/lang/constant/Constable" (some 0) with
  accessFlags := 1537
  interfaces := #[]
  cf := some (fileOf pool5 1 #[] #[] 1537 3 #[] #[])
  fields := #[]
  methods := #[]
  instanceTypes := #[]
  staticTypes := #[]
  resolved := Array.replicate 11 none
  statics := none }

def pool6 : Array CpInfo := pool [(1, .class_ 2), (0, u "java/lang/constant/ConstantDesc"), (0, .class_ 4), (0, u "java/lang/Object")] 32

/-- java/lang/constant/ConstantDesc -/
def k6 : Class := { plain "java/lang/constant/ConstantDesc" (some 0) with
  accessFlags := 1537
  interfaces := #[]
  cf := some (fileOf pool6 1 #[] #[] 1537 3 #[] #[])
  fields := #[]
  methods := #[]
  instanceTypes := #[]
  staticTypes := #[]
  resolved := Array.replicate 37 none
  statics := none }

def pool7 : Array CpInfo := pool [(1, .methodref 2 3), (0, .class_ 4), (0, .nameAndType 5 6), (0, u "java/lang/Object"), (0, u "<init>"), (0, u "()V"), (2, .fieldref 10 11), (0, .class_ 12), (0, .nameAndType 13 14), (0, u "java/lang/String"), (0, u "value"), (0, u "[B"), (0, .fieldref 10 16), (0, .nameAndType 17 18), (0, u "coder"), (0, u "B"), (2, u "hash"), (0, u "I"), (2, u "hashIsZero"), (0, u "Z"), (0, .methodref 10 28), (0, .nameAndType 5 29), (0, u "([CIILjava/lang/Void;)V"), (8, .fieldref 10 39), (0, .nameAndType 40 26), (0, u "COMPACT_STRINGS"), (1, .class_ 44), (1, u "java/lang/StringUTF16"), (0, u "compress"), (1, .methodref 42 48), (0, .nameAndType 49 50), (0, u "coderFromArrayLen"), (0, u "([BI)B"), (2, u "toBytes"), (53, .class_ 109), (1, u "java/lang/StringLatin1"), (67, .methodref 42 178), (0, .nameAndType 45 179), (0, u "([CII)[B"), (29, .methodref 10 210), (0, .nameAndType 5 211), (0, u "([BB)V"), (122, u "()I"), (0, .methodref 10 336), (0, .nameAndType 17 337), (0, u "()B"), (31, u "(C)Z"), (137, u "length"), (67, .class_ 576), (0, u "java/lang/CharSequence"), (22, u "CASE_INSENSITIVE_ORDER"), (0, u "Ljava/util/Comparator;"), (181, u "valueOf"), (0, u "(C)Ljava/lang/String;"), (226, u "([C)V"), (4, .methodref 107 1016), (0, .nameAndType 1017 369), (0, u "canEncode"), (0, .methodref 107 1019), (0, .nameAndType 53 1020), (0, u "(C)[B"), (0, .methodref 42 1019), (79, u "serialPersistentFields"), (0, u "[Ljava/io/ObjectStreamField;"), (0, .class_ 1104), (0, u "java/lang/String$CaseInsensitiveComparator"), (1, .class_ 1107), (0, u "java/io/Serializable"), (0, .class_ 1109), (0, u "java/lang/Comparable"), (0, .class_ 1111), (0, u "java/lang/constant/Constable"), (0, .class_ 1113), (0, u "java/lang/constant/ConstantDesc"), (2, u "serialVersionUID"), (0, u "J"), (3, u "REPL"), (0, u "C"), (2, u "LATIN1"), (1, u "UTF16")] 323

def k7m0 : Method := { name := "<init>", desc := "()V", sig := { parameters := [], returnType := none }, accessFlags := 1, code := none }
def k7c1 : Code := { maxStack := 5, maxLocals := 2, code := jdk_42_method_3_code, exceptionTable := #[], attributes := #[] }
def k7m1 : Method := { name := "<init>", desc := "([C)V", sig := { parameters := [(.array .char)], returnType := none }, accessFlags := 1, code := some k7c1 }
def k7c2 : Code := { maxStack := 2, maxLocals := 1, code := jdk_42_method_54_code, exceptionTable := #[], attributes := #[] }
def k7m2 : Method := { name := "length", desc := "()I", sig := { parameters := [], returnType := some .int }, accessFlags := 1, code := some k7c2 }
def k7c3 : Code := { maxStack := 4, maxLocals := 1, code := jdk_42_method_139_code, exceptionTable := #[], attributes := #[] }
def k7m3 : Method := { name := "valueOf", desc := "(C)Ljava/lang/String;", sig := { parameters := [.char], returnType := some (.object "java/lang/String") }, accessFlags := 9, code := some k7c3 }
def k7c4 : Code := { maxStack := 4, maxLocals := 6, code := jdk_42_method_149_code, exceptionTable := #[], attributes := #[] }
def k7m4 : Method := { name := "<init>", desc := "([CIILjava/lang/Void;)V", sig := { parameters := [(.array .char), .int, .int, (.object "java/lang/Void")], returnType := none }, accessFlags := 2, code := some k7c4 }
def k7c5 : Code := { maxStack := 2, maxLocals := 3, code := jdk_42_method_151_code, exceptionTable := #[], attributes := #[] }
def k7m5 : Method := { name := "<init>", desc := "([BB)V", sig := { parameters := [(.array .byte), .byte], returnType := none }, accessFlags := 0, code := some k7c5 }
def k7c6 : Code := { maxStack := 1, maxLocals := 1, code := jdk_42_method_152_code, exceptionTable := #[], attributes := #[] }
def k7m6 : Method := { name := "coder", desc := "()B", sig := { parameters := [], returnType := some .byte }, accessFlags := 0, code := some k7c6 }
/-- java/lang/String -/
def k7 : Class := { plain "java/lang/String" (some 0) with
  accessFlags := 49
  interfaces := #[2, 3, 4, 5, 6]
  cf := some (fileOf pool7 10 #[.nestMembers #[1103]] #[{ accessFlags := 1, nameIndex := 5, descriptorIndex := 6, attributes := #[] }, { accessFlags := 1, nameIndex := 5, descriptorIndex := 1010, attributes := #[] }, { accessFlags := 1, nameIndex := 507, descriptorIndex := 334, attributes := #[] }, { accessFlags := 9, nameIndex := 782, descriptorIndex := 783, attributes := #[] }, { accessFlags := 2, nameIndex := 5, descriptorIndex := 29, attributes := #[] }, { accessFlags := 0, nameIndex := 5, descriptorIndex := 211, attributes := #[] }, { accessFlags := 0, nameIndex := 17, descriptorIndex := 337, attributes := #[] }] 49 2 #[1106, 1108, 575, 1110, 1112] #[{ accessFlags := 18, nameIndex := 13, descriptorIndex := 14, attributes := #[] }, { accessFlags := 18, nameIndex := 17, descriptorIndex := 18, attributes := #[] }, { accessFlags := 2, nameIndex := 21, descriptorIndex := 22, attributes := #[] }, { accessFlags := 2, nameIndex := 25, descriptorIndex := 26, attributes := #[] }, { accessFlags := 26, nameIndex := 1116, descriptorIndex := 1117, attributes := #[] }, { accessFlags := 24, nameIndex := 40, descriptorIndex := 26, attributes := #[] }, { accessFlags := 26, nameIndex := 1101, descriptorIndex := 1102, attributes := #[] }, { accessFlags := 26, nameIndex := 1121, descriptorIndex := 1122, attributes := #[] }, { accessFlags := 25, nameIndex := 599, descriptorIndex := 600, attributes := #[] }, { accessFlags := 24, nameIndex := 1125, descriptorIndex := 18, attributes := #[] }, { accessFlags := 24, nameIndex := 1127, descriptorIndex := 18, attributes := #[] }])
  fields := #[{ name := "value", type := (.array .byte), accessFlags := 18, slot := 0, constantValue := 0 }, { name := "coder", type := .byte, accessFlags := 18, slot := 1, constantValue := 0 }, { name := "hash", type := .int, accessFlags := 2, slot := 2, constantValue := 0 }, { name := "hashIsZero", type := .boolean, accessFlags := 2, slot := 3, constantValue := 0 }, { name := "serialVersionUID", type := .long, accessFlags := 26, slot := 0, constantValue := 0 }, { name := "COMPACT_STRINGS", type := .boolean, accessFlags := 24, slot := 1, constantValue := 0 }, { name := "serialPersistentFields", type := (.array (.object "java/io/ObjectStreamField")), accessFlags := 26, slot := 2, constantValue := 0 }, { name := "REPL", type := .char, accessFlags := 26, slot := 3, constantValue := 0 }, { name := "CASE_INSENSITIVE_ORDER", type := (.object "java/util/Comparator"), accessFlags := 25, slot := 4, constantValue := 0 }, { name := "LATIN1", type := .byte, accessFlags := 24, slot := 5, constantValue := 0 }, { name := "UTF16", type := .byte, accessFlags := 24, slot := 6, constantValue := 0 }]
  methods := #[k7m0, k7m1, k7m2, k7m3, k7m4, k7m5, k7m6]
  instanceTypes := #[(.array .byte), .byte, .int, .boolean]
  staticTypes := #[.long, .boolean, (.array (.object "java/io/ObjectStreamField")), .char, (.object "java/util/Comparator"), .byte, .byte]
  resolved := Array.replicate 1451 none
  statics := some 0 }

def pool8 : Array CpInfo := pool [(6, .class_ 8), (1, u "java/lang/Object"), (0, u "<init>"), (0, u "()V"), (0, .methodref 12 13), (0, .class_ 14), (0, .nameAndType 15 16), (0, u "java/lang/StringUTF16"), (0, u "newBytesLength"), (0, u "(I)I"), (3, .integer 1073741823), (23, .fieldref 12 45), (0, .nameAndType 46 47), (0, u "$assertionsDisabled"), (0, u "Z"), (11, .fieldref 12 60), (0, .nameAndType 61 62), (0, u "HI_BYTE_SHIFT"), (0, u "I"), (0, .fieldref 12 64), (0, .nameAndType 65 62), (0, u "LO_BYTE_SHIFT"), (5, .methodref 12 72), (0, .nameAndType 73 74), (0, u "getChar"), (0, u "([BI)C"), (32, .methodref 12 108), (0, .nameAndType 109 110), (0, u "newBytesFor"), (0, u "(I)[B"), (0, .methodref 12 112), (0, .nameAndType 113 114), (0, u "putChar"), (0, u "([BII)V"), (0, .methodref 12 116), (0, .nameAndType 117 118), (0, u "compress"), (0, u "([CI[BII)I"), (0, .methodref 12 120), (0, .nameAndType 121 122), (0, u "toBytes"), (0, u "([CII)[B"), (138, u "coderFromArrayLen"), (0, u "([BI)B"), (106, .class_ 371), (1, u "java/lang/StringUTF16$LinesSpliterator"), (58, u "MAX_LENGTH"), (44, u "(C)[B"), (151, .class_ 628), (0, u "java/lang/StringUTF16$CodePointsSpliterator"), (0, .class_ 630), (0, u "java/lang/StringUTF16$CharsSpliterator")] 4

def k8m0 : Method := { name := "<init>", desc := "()V", sig := { parameters := [], returnType := none }, accessFlags := 0, code := none }
def k8c1 : Code := { maxStack := 1, maxLocals := 1, code := jdk_52_method_2_code, exceptionTable := #[], attributes := #[] }
def k8m1 : Method := { name := "newBytesFor", desc := "(I)[B", sig := { parameters := [.int], returnType := some (.array .byte) }, accessFlags := 9, code := some k8c1 }
def k8c2 : Code := { maxStack := 4, maxLocals := 1, code := jdk_52_method_3_code, exceptionTable := #[], attributes := #[] }
def k8m2 : Method := { name := "newBytesLength", desc := "(I)I", sig := { parameters := [.int], returnType := some .int }, accessFlags := 9, code := some k8c2 }
def k8c3 : Code := { maxStack := 4, maxLocals := 3, code := jdk_52_method_4_code, exceptionTable := #[], attributes := #[] }
def k8m3 : Method := { name := "putChar", desc := "([BII)V", sig := { parameters := [(.array .byte), .int, .int], returnType := none }, accessFlags := 8, code := some k8c3 }
def k8c4 : Code := { maxStack := 3, maxLocals := 2, code := jdk_52_method_5_code, exceptionTable := #[], attributes := #[] }
def k8m4 : Method := { name := "getChar", desc := "([BI)C", sig := { parameters := [(.array .byte), .int], returnType := some .char }, accessFlags := 8, code := some k8c4 }
def k8c5 : Code := { maxStack := 4, maxLocals := 5, code := jdk_52_method_14_code, exceptionTable := #[], attributes := #[] }
def k8m5 : Method := { name := "toBytes", desc := "([CII)[B", sig := { parameters := [(.array .char), .int, .int], returnType := some (.array .byte) }, accessFlags := 9, code := some k8c5 }
def k8c6 : Code := { maxStack := 2, maxLocals := 2, code := jdk_52_method_15_code, exceptionTable := #[], attributes := #[] }
def k8m6 : Method := { name := "coderFromArrayLen", desc := "([BI)B", sig := { parameters := [(.array .byte), .int], returnType := some .byte }, accessFlags := 8, code := some k8c6 }
def k8c7 : Code := { maxStack := 5, maxLocals := 6, code := jdk_52_method_16_code, exceptionTable := #[], attributes := #[] }
def k8m7 : Method := { name := "compress", desc := "([CII)[B", sig := { parameters := [(.array .char), .int, .int], returnType := some (.array .byte) }, accessFlags := 9, code := some k8c7 }
def k8c8 : Code := { maxStack := 3, maxLocals := 7, code := jdk_52_method_21_code, exceptionTable := #[], attributes := #[] }
def k8m8 : Method := { name := "compress", desc := "([CI[BII)I", sig := { parameters := [(.array .char), .int, (.array .byte), .int, .int], returnType := some .int }, accessFlags := 9, code := some k8c8 }
def k8c9 : Code := { maxStack := 3, maxLocals := 2, code := jdk_52_method_24_code, exceptionTable := #[], attributes := #[] }
def k8m9 : Method := { name := "toBytes", desc := "(C)[B", sig := { parameters := [.char], returnType := some (.array .byte) }, accessFlags := 9, code := some k8c9 }
/-- java/lang/StringUTF16 -/
def k8 : Class := { plain "java/lang/StringUTF16" (some 0) with
  accessFlags := 48
  interfaces := #[]
  cf := some (fileOf pool8 12 #[.nestMembers #[627, 629, 369]] #[{ accessFlags := 0, nameIndex := 9, descriptorIndex := 10, attributes := #[] }, { accessFlags := 9, nameIndex := 109, descriptorIndex := 110, attributes := #[] }, { accessFlags := 9, nameIndex := 15, descriptorIndex := 16, attributes := #[] }, { accessFlags := 8, nameIndex := 113, descriptorIndex := 114, attributes := #[] }, { accessFlags := 8, nameIndex := 73, descriptorIndex := 74, attributes := #[] }, { accessFlags := 9, nameIndex := 121, descriptorIndex := 122, attributes := #[] }, { accessFlags := 8, nameIndex := 261, descriptorIndex := 262, attributes := #[] }, { accessFlags := 9, nameIndex := 117, descriptorIndex := 122, attributes := #[] }, { accessFlags := 9, nameIndex := 117, descriptorIndex := 118, attributes := #[] }, { accessFlags := 9, nameIndex := 121, descriptorIndex := 475, attributes := #[] }] 48 6 #[] #[{ accessFlags := 26, nameIndex := 61, descriptorIndex := 62, attributes := #[] }, { accessFlags := 26, nameIndex := 65, descriptorIndex := 62, attributes := #[] }, { accessFlags := 24, nameIndex := 430, descriptorIndex := 62, attributes := #[] }, { accessFlags := 4120, nameIndex := 46, descriptorIndex := 47, attributes := #[] }])
  fields := #[{ name := "HI_BYTE_SHIFT", type := .int, accessFlags := 26, slot := 0, constantValue := 0 }, { name := "LO_BYTE_SHIFT", type := .int, accessFlags := 26, slot := 1, constantValue := 0 }, { name := "MAX_LENGTH", type := .int, accessFlags := 24, slot := 2, constantValue := 0 }, { name := "$assertionsDisabled", type := .boolean, accessFlags := 4120, slot := 3, constantValue := 0 }]
  methods := #[k8m0, k8m1, k8m2, k8m3, k8m4, k8m5, k8m6, k8m7, k8m8, k8m9]
  instanceTypes := #[]
  staticTypes := #[.int, .int, .int, .boolean]
  resolved := Array.replicate 635 none
  statics := some 1 }

def pool9 : Array CpInfo := pool [(2, .class_ 4), (1, u "java/lang/Enum"), (0, u "name"), (0, u "Ljava/lang/String;"), (2, u "ordinal"), (0, u "I"), (1, .class_ 14), (1, u "java/lang/Object"), (4, u "hash"), (86, .class_ 108), (1, u "java/lang/Enum$EnumDesc"), (2, .class_ 112), (0, u "java/lang/constant/Constable"), (0, .class_ 114), (0, u "java/lang/Comparable"), (0, .class_ 116), (0, u "java/io/Serializable")] 87

/-- java/lang/Enum -/
def k9 : Class := { plain "java/lang/Enum" (some 0) with
  accessFlags := 1057
  interfaces := #[5, 3, 2]
  cf := some (fileOf pool9 2 #[.nestMembers #[106]] #[] 1057 12 #[111, 113, 115] #[{ accessFlags := 18, nameIndex := 5, descriptorIndex := 6, attributes := #[] }, { accessFlags := 18, nameIndex := 9, descriptorIndex := 10, attributes := #[] }, { accessFlags := 2, nameIndex := 19, descriptorIndex := 10, attributes := #[] }])
  fields := #[{ name := "name", type := (.object "java/lang/String"), accessFlags := 18, slot := 0, constantValue := 0 }, { name := "ordinal", type := .int, accessFlags := 18, slot := 1, constantValue := 0 }, { name := "hash", type := .int, accessFlags := 2, slot := 2, constantValue := 0 }]
  methods := #[]
  instanceTypes := #[(.object "java/lang/String"), .int, .int]
  staticTypes := #[]
  resolved := Array.replicate 204 none
  statics := none }

def pool10 : Array CpInfo := pool [(1, .class_ 2), (0, u "com/example/restate/restate/Citation$Reading"), (2, u "OWN"), (0, u "Lcom/example/restate/restate/Citation$Reading;"), (2, u "OTHER"), (2, u "UNCLEAR"), (2, u "$VALUES"), (0, u "[Lcom/example/restate/restate/Citation$Reading;"), (6, .class_ 25), (1, u "java/lang/Enum"), (26, .class_ 53), (0, u "com/example/restate/restate/Citation")] 2

/-- com/example/restate/restate/Citation$Reading -/
def k10 : Class := { plain "com/example/restate/restate/Citation$Reading" (some 9) with
  accessFlags := 16432
  interfaces := #[]
  cf := some (fileOf pool10 1 #[.nestHost 52] #[] 16432 23 #[] #[{ accessFlags := 16409, nameIndex := 5, descriptorIndex := 6, attributes := #[] }, { accessFlags := 16409, nameIndex := 9, descriptorIndex := 6, attributes := #[] }, { accessFlags := 16409, nameIndex := 12, descriptorIndex := 6, attributes := #[] }, { accessFlags := 4122, nameIndex := 15, descriptorIndex := 16, attributes := #[] }])
  fields := #[{ name := "OWN", type := (.object "com/example/restate/restate/Citation$Reading"), accessFlags := 16409, slot := 0, constantValue := 0 }, { name := "OTHER", type := (.object "com/example/restate/restate/Citation$Reading"), accessFlags := 16409, slot := 1, constantValue := 0 }, { name := "UNCLEAR", type := (.object "com/example/restate/restate/Citation$Reading"), accessFlags := 16409, slot := 2, constantValue := 0 }, { name := "$VALUES", type := (.array (.object "com/example/restate/restate/Citation$Reading")), accessFlags := 4122, slot := 3, constantValue := 0 }]
  methods := #[]
  instanceTypes := #[(.object "java/lang/String"), .int, .int]
  staticTypes := #[(.object "com/example/restate/restate/Citation$Reading"), (.object "com/example/restate/restate/Citation$Reading"), (.object "com/example/restate/restate/Citation$Reading"), (.array (.object "com/example/restate/restate/Citation$Reading"))]
  resolved := Array.replicate 56 none
  statics := some 2 }

def pool11 : Array CpInfo := pool [(1, .methodref 2 3), (0, .class_ 4), (0, .nameAndType 5 6), (0, u "java/lang/Object"), (0, u "<init>"), (0, u "()V"), (0, .class_ 8), (0, u "java/lang/Record")] 13

def k11c0 : Code := { maxStack := 1, maxLocals := 1, code := jdk_30_method_1_code, exceptionTable := #[], attributes := #[] }
def k11m0 : Method := { name := "<init>", desc := "()V", sig := { parameters := [], returnType := none }, accessFlags := 4, code := some k11c0 }
/-- java/lang/Record -/
def k11 : Class := { plain "java/lang/Record" (some 0) with
  accessFlags := 1057
  interfaces := #[]
  cf := some (fileOf pool11 7 #[] #[{ accessFlags := 4, nameIndex := 5, descriptorIndex := 6, attributes := #[] }] 1057 2 #[] #[])
  fields := #[]
  methods := #[k11m0]
  instanceTypes := #[]
  staticTypes := #[]
  resolved := Array.replicate 22 none
  statics := none }

def pool12 : Array CpInfo := pool [(1, .class_ 2), (0, u "com/example/restate/restate/Citation"), (0, .methodref 4 5), (0, .class_ 6), (0, .nameAndType 7 8), (0, u "java/lang/Record"), (0, u "<init>"), (0, u "()V"), (0, .fieldref 1 10), (0, .nameAndType 11 12), (0, u "paragraph"), (0, u "I"), (0, .fieldref 1 14), (0, .nameAndType 15 12), (0, u "start"), (0, .fieldref 1 17), (0, .nameAndType 18 19), (0, u "label"), (0, u "Ljava/lang/String;"), (0, .fieldref 1 21), (0, .nameAndType 22 23), (0, u "reading"), (0, u "Lcom/example/restate/restate/Citation$Reading;"), (5, u "LIST"), (0, u "Ljava/util/regex/Pattern;"), (8, u "NUMBER_ALONE"), (11, u "()I"), (2, u "end"), (10, u "(IILjava/lang/String;Lcom/example/restate/restate/Citation$Reading;)V"), (4, .methodref 71 72), (0, .class_ 73), (0, .nameAndType 74 51), (0, u "java/lang/String"), (0, u "length"), (13, u "OTHER_AFTER"), (5, .class_ 96), (1, u "com/example/restate/restate/Citation$Reading"), (8, u "OWN_AFTER"), (30, u "NUMBER"), (1, u "WORD"), (2, u "ITEM"), (2, u "JOINER"), (2, u "OF")] 35

def k12c0 : Code := { maxStack := 2, maxLocals := 5, code := prog_8_method_1_code, exceptionTable := #[], attributes := #[] }
def k12m0 : Method := { name := "<init>", desc := "(IILjava/lang/String;Lcom/example/restate/restate/Citation$Reading;)V", sig := { parameters := [.int, .int, (.object "java/lang/String"), (.object "com/example/restate/restate/Citation$Reading")], returnType := none }, accessFlags := 0, code := some k12c0 }
def k12c1 : Code := { maxStack := 2, maxLocals := 1, code := prog_8_method_3_code, exceptionTable := #[], attributes := #[] }
def k12m1 : Method := { name := "end", desc := "()I", sig := { parameters := [], returnType := some .int }, accessFlags := 0, code := some k12c1 }
/-- com/example/restate/restate/Citation -/
def k12 : Class := { plain "com/example/restate/restate/Citation" (some 11) with
  accessFlags := 48
  interfaces := #[]
  cf := some (fileOf pool12 1 #[.nestMembers #[94]] #[{ accessFlags := 0, nameIndex := 7, descriptorIndex := 65, attributes := #[] }, { accessFlags := 0, nameIndex := 54, descriptorIndex := 51, attributes := #[] }] 48 4 #[] #[{ accessFlags := 18, nameIndex := 11, descriptorIndex := 12, attributes := #[] }, { accessFlags := 18, nameIndex := 15, descriptorIndex := 12, attributes := #[] }, { accessFlags := 18, nameIndex := 18, descriptorIndex := 19, attributes := #[] }, { accessFlags := 18, nameIndex := 22, descriptorIndex := 23, attributes := #[] }, { accessFlags := 26, nameIndex := 136, descriptorIndex := 19, attributes := #[] }, { accessFlags := 26, nameIndex := 39, descriptorIndex := 30, attributes := #[] }, { accessFlags := 26, nameIndex := 138, descriptorIndex := 19, attributes := #[] }, { accessFlags := 26, nameIndex := 141, descriptorIndex := 19, attributes := #[] }, { accessFlags := 26, nameIndex := 144, descriptorIndex := 19, attributes := #[] }, { accessFlags := 26, nameIndex := 29, descriptorIndex := 30, attributes := #[] }, { accessFlags := 26, nameIndex := 147, descriptorIndex := 19, attributes := #[] }, { accessFlags := 26, nameIndex := 105, descriptorIndex := 30, attributes := #[] }, { accessFlags := 26, nameIndex := 88, descriptorIndex := 30, attributes := #[] }])
  fields := #[{ name := "paragraph", type := .int, accessFlags := 18, slot := 0, constantValue := 0 }, { name := "start", type := .int, accessFlags := 18, slot := 1, constantValue := 0 }, { name := "label", type := (.object "java/lang/String"), accessFlags := 18, slot := 2, constantValue := 0 }, { name := "reading", type := (.object "com/example/restate/restate/Citation$Reading"), accessFlags := 18, slot := 3, constantValue := 0 }, { name := "NUMBER", type := (.object "java/lang/String"), accessFlags := 26, slot := 0, constantValue := 0 }, { name := "NUMBER_ALONE", type := (.object "java/util/regex/Pattern"), accessFlags := 26, slot := 1, constantValue := 0 }, { name := "WORD", type := (.object "java/lang/String"), accessFlags := 26, slot := 2, constantValue := 0 }, { name := "ITEM", type := (.object "java/lang/String"), accessFlags := 26, slot := 3, constantValue := 0 }, { name := "JOINER", type := (.object "java/lang/String"), accessFlags := 26, slot := 4, constantValue := 0 }, { name := "LIST", type := (.object "java/util/regex/Pattern"), accessFlags := 26, slot := 5, constantValue := 0 }, { name := "OF", type := (.object "java/lang/String"), accessFlags := 26, slot := 6, constantValue := 0 }, { name := "OWN_AFTER", type := (.object "java/util/regex/Pattern"), accessFlags := 26, slot := 7, constantValue := 0 }, { name := "OTHER_AFTER", type := (.object "java/util/regex/Pattern"), accessFlags := 26, slot := 8, constantValue := 0 }]
  methods := #[k12m0, k12m1]
  instanceTypes := #[.int, .int, (.object "java/lang/String"), (.object "com/example/restate/restate/Citation$Reading")]
  staticTypes := #[(.object "java/lang/String"), (.object "java/util/regex/Pattern"), (.object "java/lang/String"), (.object "java/lang/String"), (.object "java/lang/String"), (.object "java/util/regex/Pattern"), (.object "java/lang/String"), (.object "java/util/regex/Pattern"), (.object "java/util/regex/Pattern")]
  resolved := Array.replicate 183 none
  statics := none }

def pool13 : Array CpInfo := pool [(4, .class_ 6), (1, u "java/lang/Object"), (0, u "<init>"), (0, u "()V"), (5, .class_ 16), (1, u "java/lang/StringLatin1"), (73, u "canEncode"), (14, u "(C)Z"), (15, u "$assertionsDisabled"), (0, u "Z"), (98, .class_ 223), (1, u "java/lang/StringLatin1$LinesSpliterator"), (156, u "toBytes"), (1, u "(C)[B"), (7, .class_ 391), (0, u "java/lang/StringLatin1$CharsSpliterator")] 3

def k13m0 : Method := { name := "<init>", desc := "()V", sig := { parameters := [], returnType := none }, accessFlags := 0, code := none }
def k13c1 : Code := { maxStack := 2, maxLocals := 1, code := jdk_43_method_3_code, exceptionTable := #[], attributes := #[] }
def k13m1 : Method := { name := "canEncode", desc := "(C)Z", sig := { parameters := [.char], returnType := some .boolean }, accessFlags := 9, code := some k13c1 }
def k13c2 : Code := { maxStack := 4, maxLocals := 1, code := jdk_43_method_46_code, exceptionTable := #[], attributes := #[] }
def k13m2 : Method := { name := "toBytes", desc := "(C)[B", sig := { parameters := [.char], returnType := some (.array .byte) }, accessFlags := 9, code := some k13c2 }
/-- java/lang/StringLatin1 -/
def k13 : Class := { plain "java/lang/StringLatin1" (some 0) with
  accessFlags := 48
  interfaces := #[]
  cf := some (fileOf pool13 14 #[.nestMembers #[390, 221]] #[{ accessFlags := 0, nameIndex := 7, descriptorIndex := 8, attributes := #[] }, { accessFlags := 9, nameIndex := 90, descriptorIndex := 105, attributes := #[] }, { accessFlags := 9, nameIndex := 380, descriptorIndex := 382, attributes := #[] }] 48 4 #[] #[{ accessFlags := 4120, nameIndex := 121, descriptorIndex := 122, attributes := #[] }])
  fields := #[{ name := "$assertionsDisabled", type := .boolean, accessFlags := 4120, slot := 0, constantValue := 0 }]
  methods := #[k13m0, k13m1, k13m2]
  instanceTypes := #[]
  staticTypes := #[.boolean]
  resolved := Array.replicate 395 none
  statics := none }

def pool14 : Array CpInfo := pool [(2, .class_ 4), (1, u "java/lang/Object"), (0, u "<init>"), (0, u "()V"), (17, .class_ 26), (1, u "jdk/internal/util/Preconditions"), (28, .class_ 56), (0, u "jdk/internal/util/Preconditions$4"), (57, .class_ 115), (0, u "jdk/internal/util/Preconditions$1"), (7, u "SIOOBE_FORMATTER"), (0, u "Ljava/util/function/BiFunction;"), (0, .class_ 126), (0, u "jdk/internal/util/Preconditions$2"), (3, u "AIOOBE_FORMATTER"), (0, .class_ 132), (0, u "jdk/internal/util/Preconditions$3"), (3, u "IOOBE_FORMATTER")] 57

def k14m0 : Method := { name := "<init>", desc := "()V", sig := { parameters := [], returnType := none }, accessFlags := 1, code := none }
/-- jdk/internal/util/Preconditions -/
def k14 : Class := { plain "jdk/internal/util/Preconditions" (some 0) with
  accessFlags := 33
  interfaces := #[]
  cf := some (fileOf pool14 24 #[.nestMembers #[55, 131, 125, 114]] #[{ accessFlags := 1, nameIndex := 5, descriptorIndex := 6, attributes := #[] }] 33 2 #[] #[{ accessFlags := 25, nameIndex := 123, descriptorIndex := 124, attributes := #[] }, { accessFlags := 25, nameIndex := 130, descriptorIndex := 124, attributes := #[] }, { accessFlags := 25, nameIndex := 136, descriptorIndex := 124, attributes := #[] }])
  fields := #[{ name := "SIOOBE_FORMATTER", type := (.object "java/util/function/BiFunction"), accessFlags := 25, slot := 0, constantValue := 0 }, { name := "AIOOBE_FORMATTER", type := (.object "java/util/function/BiFunction"), accessFlags := 25, slot := 1, constantValue := 0 }, { name := "IOOBE_FORMATTER", type := (.object "java/util/function/BiFunction"), accessFlags := 25, slot := 2, constantValue := 0 }]
  methods := #[k14m0]
  instanceTypes := #[]
  staticTypes := #[(.object "java/util/function/BiFunction"), (.object "java/util/function/BiFunction"), (.object "java/util/function/BiFunction")]
  resolved := Array.replicate 194 none
  statics := some 3 }

def pool15 : Array CpInfo := pool [(9, u "<init>"), (6, .class_ 18), (1, u "java/lang/Object"), (0, u "()V"), (1, .class_ 23), (1, u "jdk/internal/util/ArraysSupport"), (0, u "LOG2_ARRAY_LONG_INDEX_SCALE"), (0, u "I"), (2, u "U"), (0, u "Ljdk/internal/misc/Unsafe;"), (8, u "BIG_ENDIAN"), (0, u "Z"), (8, u "LOG2_BYTE_BIT_SIZE"), (4, u "LOG2_ARRAY_INT_INDEX_SCALE"), (54, u "JLA"), (0, u "Ljdk/internal/access/JavaLangAccess;"), (11, u "LOG2_ARRAY_BOOLEAN_INDEX_SCALE"), (9, u "LOG2_ARRAY_BYTE_INDEX_SCALE"), (5, u "LOG2_ARRAY_CHAR_INDEX_SCALE"), (5, u "LOG2_ARRAY_SHORT_INDEX_SCALE"), (18, u "LOG2_ARRAY_FLOAT_INDEX_SCALE"), (24, u "LOG2_ARRAY_DOUBLE_INDEX_SCALE"), (89, u "T_BOOLEAN"), (2, u "T_CHAR"), (1, u "T_FLOAT"), (1, u "T_DOUBLE"), (1, u "T_BYTE"), (1, u "T_SHORT"), (1, u "T_INT"), (1, u "T_LONG"), (1, u "SOFT_MAX_ARRAY_LENGTH")] 83

def k15m0 : Method := { name := "<init>", desc := "()V", sig := { parameters := [], returnType := none }, accessFlags := 2, code := none }
/-- jdk/internal/util/ArraysSupport -/
def k15 : Class := { plain "jdk/internal/util/ArraysSupport" (some 0) with
  accessFlags := 33
  interfaces := #[]
  cf := some (fileOf pool15 21 #[] #[{ accessFlags := 2, nameIndex := 9, descriptorIndex := 19, attributes := #[] }] 33 16 #[] #[{ accessFlags := 24, nameIndex := 28, descriptorIndex := 29, attributes := #[] }, { accessFlags := 26, nameIndex := 38, descriptorIndex := 39, attributes := #[] }, { accessFlags := 25, nameIndex := 121, descriptorIndex := 25, attributes := #[] }, { accessFlags := 25, nameIndex := 131, descriptorIndex := 25, attributes := #[] }, { accessFlags := 25, nameIndex := 137, descriptorIndex := 25, attributes := #[] }, { accessFlags := 25, nameIndex := 143, descriptorIndex := 25, attributes := #[] }, { accessFlags := 25, nameIndex := 53, descriptorIndex := 25, attributes := #[] }, { accessFlags := 25, nameIndex := 24, descriptorIndex := 25, attributes := #[] }, { accessFlags := 25, nameIndex := 162, descriptorIndex := 25, attributes := #[] }, { accessFlags := 25, nameIndex := 187, descriptorIndex := 25, attributes := #[] }, { accessFlags := 26, nameIndex := 48, descriptorIndex := 25, attributes := #[] }, { accessFlags := 25, nameIndex := 277, descriptorIndex := 25, attributes := #[] }, { accessFlags := 25, nameIndex := 280, descriptorIndex := 25, attributes := #[] }, { accessFlags := 25, nameIndex := 282, descriptorIndex := 25, attributes := #[] }, { accessFlags := 25, nameIndex := 284, descriptorIndex := 25, attributes := #[] }, { accessFlags := 25, nameIndex := 286, descriptorIndex := 25, attributes := #[] }, { accessFlags := 25, nameIndex := 288, descriptorIndex := 25, attributes := #[] }, { accessFlags := 25, nameIndex := 290, descriptorIndex := 25, attributes := #[] }, { accessFlags := 25, nameIndex := 292, descriptorIndex := 25, attributes := #[] }, { accessFlags := 26, nameIndex := 108, descriptorIndex := 109, attributes := #[] }, { accessFlags := 25, nameIndex := 294, descriptorIndex := 25, attributes := #[] }])
  fields := #[{ name := "U", type := (.object "jdk/internal/misc/Unsafe"), accessFlags := 24, slot := 0, constantValue := 0 }, { name := "BIG_ENDIAN", type := .boolean, accessFlags := 26, slot := 1, constantValue := 0 }, { name := "LOG2_ARRAY_BOOLEAN_INDEX_SCALE", type := .int, accessFlags := 25, slot := 2, constantValue := 0 }, { name := "LOG2_ARRAY_BYTE_INDEX_SCALE", type := .int, accessFlags := 25, slot := 3, constantValue := 0 }, { name := "LOG2_ARRAY_CHAR_INDEX_SCALE", type := .int, accessFlags := 25, slot := 4, constantValue := 0 }, { name := "LOG2_ARRAY_SHORT_INDEX_SCALE", type := .int, accessFlags := 25, slot := 5, constantValue := 0 }, { name := "LOG2_ARRAY_INT_INDEX_SCALE", type := .int, accessFlags := 25, slot := 6, constantValue := 0 }, { name := "LOG2_ARRAY_LONG_INDEX_SCALE", type := .int, accessFlags := 25, slot := 7, constantValue := 0 }, { name := "LOG2_ARRAY_FLOAT_INDEX_SCALE", type := .int, accessFlags := 25, slot := 8, constantValue := 0 }, { name := "LOG2_ARRAY_DOUBLE_INDEX_SCALE", type := .int, accessFlags := 25, slot := 9, constantValue := 0 }, { name := "LOG2_BYTE_BIT_SIZE", type := .int, accessFlags := 26, slot := 10, constantValue := 0 }, { name := "T_BOOLEAN", type := .int, accessFlags := 25, slot := 11, constantValue := 0 }, { name := "T_CHAR", type := .int, accessFlags := 25, slot := 12, constantValue := 0 }, { name := "T_FLOAT", type := .int, accessFlags := 25, slot := 13, constantValue := 0 }, { name := "T_DOUBLE", type := .int, accessFlags := 25, slot := 14, constantValue := 0 }, { name := "T_BYTE", type := .int, accessFlags := 25, slot := 15, constantValue := 0 }, { name := "T_SHORT", type := .int, accessFlags := 25, slot := 16, constantValue := 0 }, { name := "T_INT", type := .int, accessFlags := 25, slot := 17, constantValue := 0 }, { name := "T_LONG", type := .int, accessFlags := 25, slot := 18, constantValue := 0 }, { name := "JLA", type := (.object "jdk/internal/access/JavaLangAccess"), accessFlags := 26, slot := 19, constantValue := 0 }, { name := "SOFT_MAX_ARRAY_LENGTH", type := .int, accessFlags := 25, slot := 20, constantValue := 0 }]
  methods := #[k15m0]
  instanceTypes := #[]
  staticTypes := #[(.object "jdk/internal/misc/Unsafe"), .boolean, .int, .int, .int, .int, .int, .int, .int, .int, .int, .int, .int, .int, .int, .int, .int, .int, .int, (.object "jdk/internal/access/JavaLangAccess"), .int]
  resolved := Array.replicate 378 none
  statics := none }

def pool16 : Array CpInfo := pool [(1, u "java/lang/Cloneable"), (0, .class_ 1), (0, u "java/lang/Object"), (0, .class_ 3)] 3

/-- java/lang/Cloneable -/
def k16 : Class := { plain "java/lang/Cloneable" (some 0) with
  accessFlags := 1537
  interfaces := #[]
  cf := some (fileOf pool16 2 #[] #[] 1537 4 #[] #[])
  fields := #[]
  methods := #[]
  instanceTypes := #[]
  staticTypes := #[]
  resolved := Array.replicate 8 none
  statics := none }

/-- the primitive byte -/
def k17 : Class := { plain "byte" none with kind := .primitive 'B', accessFlags := 0x411 }
/-- [B -/
def k18 : Class := { plain "[B" (some 0) with kind := .array 17 .byte, interfaces := #[16, 2], accessFlags := 1041 }

/-- the primitive char -/
def k19 : Class := { plain "char" none with kind := .primitive 'C', accessFlags := 0x411 }
/-- [C -/
def k20 : Class := { plain "[C" (some 0) with kind := .array 19 .char, interfaces := #[16, 2], accessFlags := 1041 }

/-- the primitive int -/
def k21 : Class := { plain "int" none with kind := .primitive 'I', accessFlags := 0x411 }
/-- [I -/
def k22 : Class := { plain "[I" (some 0) with kind := .array 21 .int, interfaces := #[16, 2], accessFlags := 1041 }

def heap : Heap := #[{ cls := 7, slots := #[.long 0, .int 1, .null, .int 0, .null, .int 0, .int 0], vm := .statics 7 },
  { cls := 8, slots := #[.int 0, .int 8, .int 0, .int 1], vm := .statics 8 },
  { cls := 10, slots := #[.ref 4, .ref 6, .ref 5, .null], vm := .statics 10 },
  { cls := 14, slots := #[.null, .null, .null], vm := .statics 14 },
  { cls := 10, slots := #[.null, .int 0, .int 0], vm := .none },
  { cls := 10, slots := #[.null, .int 1, .int 0], vm := .none },
  { cls := 10, slots := #[.null, .int 2, .int 0], vm := .none }]
def classes : Array Class := #[k0, k1, k2, k3, k4, k5, k6, k7, k8, k9, k10, k11, k12, k13, k14, k15, k16, k17, k18, k19, k20, k21, k22]
def interned : List (Array UInt16 × Addr) := []
def slotsUsed : Nat := 27
def theMethod : MethodId := ⟨1, 1⟩
def args0 : Array Value := #[.int 1, .int 2, .int 3, .int 4, .int 5, .int 6]
def aboutOver (below : List Frame) : State where
  vm := { classes := classes, interned := interned.toArray }
  heap := heap
  slotsUsed := slotsUsed
  threads := #[{ frames := .invoking theMethod args0 :: below }]
def below0 : List Frame := [.native { method := ⟨0, 0⟩, args := #[] }]
def about1 : State := aboutOver below0
def p0 : Program := .bare "" "" ""
def e0 : Env := launch0.env 0 0 0
theorem w_frames : about1.frames = Frame.invoking theMethod args0 :: below0 := rfl
set_option maxRecDepth 65536 in
theorem w_args : argsFit about1.vm theMethod args0 = true := by decide +kernel
set_option maxRecDepth 65536 in
theorem w_heap : heapFits about1 = true := by decide +kernel
set_option maxRecDepth 65536 in
theorem w_runnable : about1.curStatus? = some .runnable := by decide +kernel
set_option maxRecDepth 65536 in
theorem w_alone : about1.alone = true := by decide +kernel
set_option maxRecDepth 65536 in
theorem w_named : about1.methodNamed? x = some theMethod := by decide +kernel
set_option maxRecDepth 65536 in
theorem w_hears : about1.hears theMethod below0 = true := by decide +kernel
set_option maxRecDepth 65536 in
theorem w_ripe : about1.ripe theMethod args0 below0 = true := by decide +kernel
theorem w_running : about1.status = .running := rfl
set_option maxRecDepth 65536 in
theorem w_room : about1.hasRoom e0.platform room_1 = true :=
  launch0.hasRoom_least _ room_1 (by decide +kernel) (by decide +kernel) (by decide +kernel) (by decide +kernel) (by decide +kernel) (by decide +kernel)
theorem allAtoms_all (ts : List Jvm.Cond) (a : Array Jvm.Value) (st : Jvm.State) : (allAtoms ts).before a st = ts.all (fun c => c.before a st) := by
  induction ts with
  | nil => rfl
  | cons c t ih =>
    show (Jvm.Cond.and c (allAtoms t)).before a st = _
    rw [Jvm.Cond.before_and, ih, List.all_cons]
def words1 : List Jvm.Cond := Jvm.Cond.code x code maxLocals ret :: tables_1
/-- a 'code' word, met by the world's own term for the bytes: nothing is compared byte by byte -/
theorem code_word {y : MethodName} {bytes : ByteArray} {mx : Nat} {rt : Option FieldType} {a : Array Value} {s : State} {m : MethodId} {meth : Method} {c : Code} (h1 : s.methodNamed? y = some m) (h2 : s.vm.method? m = some meth) (h3 : meth.code = some c) (h4 : c.code = bytes)
    (h5 : (c.maxLocals == mx && c.exceptionTable.isEmpty && decide (c.maxStack ≤ mostOperands) && decide (meth.sig.returnType = rt) && !meth.locks && decide (parseMethodDescriptor y.desc = some meth.sig)) = true) : (Jvm.Cond.code y bytes mx rt).before a s = true := by
  simp only [Bool.and_eq_true, beq_iff_eq, Bool.not_eq_true', decide_eq_true_eq] at h5
  obtain ⟨⟨⟨⟨⟨g1, g2⟩, g3⟩, g4⟩, g5⟩, g6⟩ := h5
  simp [Cond.before, Cond.holds, Cond.value, h1, h2, h3, h4, g1, g2, g3, g4, g5, g6]
def isCode : Jvm.Cond → Bool
  | .code _ _ _ _ => true
  | _ => false
theorem all_split {L : List Jvm.Cond} {P : Jvm.Cond → Bool} (h1 : L.all (fun c => isCode c || P c) = true) (h2 : ∀ c ∈ L.filter isCode, P c = true) : L.all P = true := by
  refine List.all_eq_true.mpr fun c hc => ?_
  have h := List.all_eq_true.mp h1 c hc
  rcases Bool.eq_false_or_eq_true (isCode c) with hi | hi
  · exact h2 c (List.mem_filter.mpr ⟨hc, hi⟩)
  · simpa [hi] using h
set_option maxRecDepth 65536 in
theorem w_c0 : (Jvm.Cond.code x code maxLocals ret).before args0 about1 = true := code_word (m := ⟨1, 1⟩) (meth := k1m1) (c := k1c1) (by decide +kernel) rfl rfl rfl (by decide +kernel)
set_option maxRecDepth 65536 in
theorem w_c1 : (Jvm.Cond.code ({ cls := "java/lang/String", name := "<init>", desc := "([C)V" } : Jvm.MethodName) jdk_42_method_3_code (2 : Nat) (Option.none : Option Jvm.ClassFile.FieldType)).before args0 about1 = true := code_word (m := ⟨7, 1⟩) (meth := k7m1) (c := k7c1) (by decide +kernel) rfl rfl rfl (by decide +kernel)
set_option maxRecDepth 65536 in
theorem w_c2 : (Jvm.Cond.code ({ cls := "java/lang/String", name := "<init>", desc := "([CIILjava/lang/Void;)V" } : Jvm.MethodName) jdk_42_method_149_code (6 : Nat) (Option.none : Option Jvm.ClassFile.FieldType)).before args0 about1 = true := code_word (m := ⟨7, 4⟩) (meth := k7m4) (c := k7c4) (by decide +kernel) rfl rfl rfl (by decide +kernel)
set_option maxRecDepth 65536 in
theorem w_c3 : (Jvm.Cond.code ({ cls := "java/lang/Object", name := "<init>", desc := "()V" } : Jvm.MethodName) object_method_1_code (1 : Nat) (Option.none : Option Jvm.ClassFile.FieldType)).before args0 about1 = true := code_word (m := ⟨0, 0⟩) (meth := k0m0) (c := k0c0) (by decide +kernel) rfl rfl rfl (by decide +kernel)
set_option maxRecDepth 65536 in
theorem w_c4 : (Jvm.Cond.code ({ cls := "java/lang/StringUTF16", name := "compress", desc := "([CII)[B" } : Jvm.MethodName) jdk_52_method_16_code (6 : Nat) (Option.some (Jvm.ClassFile.FieldType.array Jvm.ClassFile.FieldType.byte))).before args0 about1 = true := code_word (m := ⟨8, 7⟩) (meth := k8m7) (c := k8c7) (by decide +kernel) rfl rfl rfl (by decide +kernel)
set_option maxRecDepth 65536 in
theorem w_c5 : (Jvm.Cond.code ({ cls := "java/lang/StringUTF16", name := "compress", desc := "([CI[BII)I" } : Jvm.MethodName) jdk_52_method_21_code (7 : Nat) (Option.some Jvm.ClassFile.FieldType.int)).before args0 about1 = true := code_word (m := ⟨8, 8⟩) (meth := k8m8) (c := k8c8) (by decide +kernel) rfl rfl rfl (by decide +kernel)
set_option maxRecDepth 65536 in
theorem w_c6 : (Jvm.Cond.code ({ cls := "java/lang/StringUTF16", name := "coderFromArrayLen", desc := "([BI)B" } : Jvm.MethodName) jdk_52_method_15_code (2 : Nat) (Option.some Jvm.ClassFile.FieldType.byte)).before args0 about1 = true := code_word (m := ⟨8, 6⟩) (meth := k8m6) (c := k8c6) (by decide +kernel) rfl rfl rfl (by decide +kernel)
set_option maxRecDepth 65536 in
theorem w_c7 : (Jvm.Cond.code ({ cls := "com/example/restate/restate/Citation", name := "<init>", desc := "(IILjava/lang/String;Lcom/example/restate/restate/Citation$Reading;)V" } : Jvm.MethodName) prog_8_method_1_code (5 : Nat) (Option.none : Option Jvm.ClassFile.FieldType)).before args0 about1 = true := code_word (m := ⟨12, 0⟩) (meth := k12m0) (c := k12c0) (by decide +kernel) rfl rfl rfl (by decide +kernel)
set_option maxRecDepth 65536 in
theorem w_c8 : (Jvm.Cond.code ({ cls := "java/lang/Record", name := "<init>", desc := "()V" } : Jvm.MethodName) jdk_30_method_1_code (1 : Nat) (Option.none : Option Jvm.ClassFile.FieldType)).before args0 about1 = true := code_word (m := ⟨11, 0⟩) (meth := k11m0) (c := k11c0) (by decide +kernel) rfl rfl rfl (by decide +kernel)
set_option maxRecDepth 65536 in
theorem w_c9 : (Jvm.Cond.code ({ cls := "com/example/restate/restate/Citation", name := "end", desc := "()I" } : Jvm.MethodName) prog_8_method_3_code (1 : Nat) (Option.some Jvm.ClassFile.FieldType.int)).before args0 about1 = true := code_word (m := ⟨12, 1⟩) (meth := k12m1) (c := k12c1) (by decide +kernel) rfl rfl rfl (by decide +kernel)
set_option maxRecDepth 65536 in
theorem w_c10 : (Jvm.Cond.code ({ cls := "java/lang/String", name := "length", desc := "()I" } : Jvm.MethodName) jdk_42_method_54_code (1 : Nat) (Option.some Jvm.ClassFile.FieldType.int)).before args0 about1 = true := code_word (m := ⟨7, 2⟩) (meth := k7m2) (c := k7c2) (by decide +kernel) rfl rfl rfl (by decide +kernel)
set_option maxRecDepth 65536 in
theorem w_c11 : (Jvm.Cond.code ({ cls := "java/lang/String", name := "coder", desc := "()B" } : Jvm.MethodName) jdk_42_method_152_code (1 : Nat) (Option.some Jvm.ClassFile.FieldType.byte)).before args0 about1 = true := code_word (m := ⟨7, 6⟩) (meth := k7m6) (c := k7c6) (by decide +kernel) rfl rfl rfl (by decide +kernel)
set_option maxRecDepth 65536 in
theorem w_c12 : (Jvm.Cond.code ({ cls := "java/lang/String", name := "valueOf", desc := "(C)Ljava/lang/String;" } : Jvm.MethodName) jdk_42_method_139_code (1 : Nat) (Option.some (Jvm.ClassFile.FieldType.object "java/lang/String"))).before args0 about1 = true := code_word (m := ⟨7, 3⟩) (meth := k7m3) (c := k7c3) (by decide +kernel) rfl rfl rfl (by decide +kernel)
set_option maxRecDepth 65536 in
theorem w_c13 : (Jvm.Cond.code ({ cls := "java/lang/StringLatin1", name := "canEncode", desc := "(C)Z" } : Jvm.MethodName) jdk_43_method_3_code (1 : Nat) (Option.some Jvm.ClassFile.FieldType.boolean)).before args0 about1 = true := code_word (m := ⟨13, 1⟩) (meth := k13m1) (c := k13c1) (by decide +kernel) rfl rfl rfl (by decide +kernel)
set_option maxRecDepth 65536 in
theorem w_c14 : (Jvm.Cond.code ({ cls := "java/lang/StringLatin1", name := "toBytes", desc := "(C)[B" } : Jvm.MethodName) jdk_43_method_46_code (1 : Nat) (Option.some (Jvm.ClassFile.FieldType.array Jvm.ClassFile.FieldType.byte))).before args0 about1 = true := code_word (m := ⟨13, 2⟩) (meth := k13m2) (c := k13c2) (by decide +kernel) rfl rfl rfl (by decide +kernel)
set_option maxRecDepth 65536 in
theorem w_c15 : (Jvm.Cond.code ({ cls := "java/lang/String", name := "<init>", desc := "([BB)V" } : Jvm.MethodName) jdk_42_method_151_code (3 : Nat) (Option.none : Option Jvm.ClassFile.FieldType)).before args0 about1 = true := code_word (m := ⟨7, 5⟩) (meth := k7m5) (c := k7c5) (by decide +kernel) rfl rfl rfl (by decide +kernel)
set_option maxRecDepth 65536 in
theorem w_c16 : (Jvm.Cond.code ({ cls := "java/lang/StringUTF16", name := "toBytes", desc := "([CII)[B" } : Jvm.MethodName) jdk_52_method_14_code (5 : Nat) (Option.some (Jvm.ClassFile.FieldType.array Jvm.ClassFile.FieldType.byte))).before args0 about1 = true := code_word (m := ⟨8, 5⟩) (meth := k8m5) (c := k8c5) (by decide +kernel) rfl rfl rfl (by decide +kernel)
set_option maxRecDepth 65536 in
theorem w_c17 : (Jvm.Cond.code ({ cls := "java/lang/StringUTF16", name := "newBytesFor", desc := "(I)[B" } : Jvm.MethodName) jdk_52_method_2_code (1 : Nat) (Option.some (Jvm.ClassFile.FieldType.array Jvm.ClassFile.FieldType.byte))).before args0 about1 = true := code_word (m := ⟨8, 1⟩) (meth := k8m1) (c := k8c1) (by decide +kernel) rfl rfl rfl (by decide +kernel)
set_option maxRecDepth 65536 in
theorem w_c18 : (Jvm.Cond.code ({ cls := "java/lang/StringUTF16", name := "newBytesLength", desc := "(I)I" } : Jvm.MethodName) jdk_52_method_3_code (1 : Nat) (Option.some Jvm.ClassFile.FieldType.int)).before args0 about1 = true := code_word (m := ⟨8, 2⟩) (meth := k8m2) (c := k8c2) (by decide +kernel) rfl rfl rfl (by decide +kernel)
set_option maxRecDepth 65536 in
theorem w_c19 : (Jvm.Cond.code ({ cls := "java/lang/StringUTF16", name := "putChar", desc := "([BII)V" } : Jvm.MethodName) jdk_52_method_4_code (3 : Nat) (Option.none : Option Jvm.ClassFile.FieldType)).before args0 about1 = true := code_word (m := ⟨8, 3⟩) (meth := k8m3) (c := k8c3) (by decide +kernel) rfl rfl rfl (by decide +kernel)
set_option maxRecDepth 65536 in
theorem w_c20 : (Jvm.Cond.code ({ cls := "java/lang/StringUTF16", name := "getChar", desc := "([BI)C" } : Jvm.MethodName) jdk_52_method_5_code (2 : Nat) (Option.some Jvm.ClassFile.FieldType.char)).before args0 about1 = true := code_word (m := ⟨8, 4⟩) (meth := k8m4) (c := k8c4) (by decide +kernel) rfl rfl rfl (by decide +kernel)
set_option maxRecDepth 65536 in
theorem w_c21 : (Jvm.Cond.code ({ cls := "java/lang/StringUTF16", name := "toBytes", desc := "(C)[B" } : Jvm.MethodName) jdk_52_method_24_code (2 : Nat) (Option.some (Jvm.ClassFile.FieldType.array Jvm.ClassFile.FieldType.byte))).before args0 about1 = true := code_word (m := ⟨8, 9⟩) (meth := k8m9) (c := k8c9) (by decide +kernel) rfl rfl rfl (by decide +kernel)
def codes1 : List Jvm.Cond := [Jvm.Cond.code x code maxLocals ret, Jvm.Cond.code ({ cls := "java/lang/String", name := "<init>", desc := "([C)V" } : Jvm.MethodName) jdk_42_method_3_code (2 : Nat) (Option.none : Option Jvm.ClassFile.FieldType), Jvm.Cond.code ({ cls := "java/lang/String", name := "<init>", desc := "([CIILjava/lang/Void;)V" } : Jvm.MethodName) jdk_42_method_149_code (6 : Nat) (Option.none : Option Jvm.ClassFile.FieldType), Jvm.Cond.code ({ cls := "java/lang/Object", name := "<init>", desc := "()V" } : Jvm.MethodName) object_method_1_code (1 : Nat) (Option.none : Option Jvm.ClassFile.FieldType), Jvm.Cond.code ({ cls := "java/lang/StringUTF16", name := "compress", desc := "([CII)[B" } : Jvm.MethodName) jdk_52_method_16_code (6 : Nat) (Option.some (Jvm.ClassFile.FieldType.array Jvm.ClassFile.FieldType.byte)), Jvm.Cond.code ({ cls := "java/lang/StringUTF16", name := "compress", desc := "([CI[BII)I" } : Jvm.MethodName) jdk_52_method_21_code (7 : Nat) (Option.some Jvm.ClassFile.FieldType.int), Jvm.Cond.code ({ cls := "java/lang/StringUTF16", name := "coderFromArrayLen", desc := "([BI)B" } : Jvm.MethodName) jdk_52_method_15_code (2 : Nat) (Option.some Jvm.ClassFile.FieldType.byte), Jvm.Cond.code ({ cls := "com/example/restate/restate/Citation", name := "<init>", desc := "(IILjava/lang/String;Lcom/example/restate/restate/Citation$Reading;)V" } : Jvm.MethodName) prog_8_method_1_code (5 : Nat) (Option.none : Option Jvm.ClassFile.FieldType), Jvm.Cond.code ({ cls := "java/lang/Record", name := "<init>", desc := "()V" } : Jvm.MethodName) jdk_30_method_1_code (1 : Nat) (Option.none : Option Jvm.ClassFile.FieldType), Jvm.Cond.code ({ cls := "com/example/restate/restate/Citation", name := "end", desc := "()I" } : Jvm.MethodName) prog_8_method_3_code (1 : Nat) (Option.some Jvm.ClassFile.FieldType.int), Jvm.Cond.code ({ cls := "java/lang/String", name := "length", desc := "()I" } : Jvm.MethodName) jdk_42_method_54_code (1 : Nat) (Option.some Jvm.ClassFile.FieldType.int), Jvm.Cond.code ({ cls := "java/lang/String", name := "coder", desc := "()B" } : Jvm.MethodName) jdk_42_method_152_code (1 : Nat) (Option.some Jvm.ClassFile.FieldType.byte), Jvm.Cond.code ({ cls := "java/lang/String", name := "valueOf", desc := "(C)Ljava/lang/String;" } : Jvm.MethodName) jdk_42_method_139_code (1 : Nat) (Option.some (Jvm.ClassFile.FieldType.object "java/lang/String")), Jvm.Cond.code ({ cls := "java/lang/StringLatin1", name := "canEncode", desc := "(C)Z" } : Jvm.MethodName) jdk_43_method_3_code (1 : Nat) (Option.some Jvm.ClassFile.FieldType.boolean), Jvm.Cond.code ({ cls := "java/lang/StringLatin1", name := "toBytes", desc := "(C)[B" } : Jvm.MethodName) jdk_43_method_46_code (1 : Nat) (Option.some (Jvm.ClassFile.FieldType.array Jvm.ClassFile.FieldType.byte)), Jvm.Cond.code ({ cls := "java/lang/String", name := "<init>", desc := "([BB)V" } : Jvm.MethodName) jdk_42_method_151_code (3 : Nat) (Option.none : Option Jvm.ClassFile.FieldType), Jvm.Cond.code ({ cls := "java/lang/StringUTF16", name := "toBytes", desc := "([CII)[B" } : Jvm.MethodName) jdk_52_method_14_code (5 : Nat) (Option.some (Jvm.ClassFile.FieldType.array Jvm.ClassFile.FieldType.byte)), Jvm.Cond.code ({ cls := "java/lang/StringUTF16", name := "newBytesFor", desc := "(I)[B" } : Jvm.MethodName) jdk_52_method_2_code (1 : Nat) (Option.some (Jvm.ClassFile.FieldType.array Jvm.ClassFile.FieldType.byte)), Jvm.Cond.code ({ cls := "java/lang/StringUTF16", name := "newBytesLength", desc := "(I)I" } : Jvm.MethodName) jdk_52_method_3_code (1 : Nat) (Option.some Jvm.ClassFile.FieldType.int), Jvm.Cond.code ({ cls := "java/lang/StringUTF16", name := "putChar", desc := "([BII)V" } : Jvm.MethodName) jdk_52_method_4_code (3 : Nat) (Option.none : Option Jvm.ClassFile.FieldType), Jvm.Cond.code ({ cls := "java/lang/StringUTF16", name := "getChar", desc := "([BI)C" } : Jvm.MethodName) jdk_52_method_5_code (2 : Nat) (Option.some Jvm.ClassFile.FieldType.char), Jvm.Cond.code ({ cls := "java/lang/StringUTF16", name := "toBytes", desc := "(C)[B" } : Jvm.MethodName) jdk_52_method_24_code (2 : Nat) (Option.some (Jvm.ClassFile.FieldType.array Jvm.ClassFile.FieldType.byte))]
set_option maxRecDepth 65536 in
theorem codes_eq : words1.filter isCode = codes1 := rfl
theorem w_codes : ∀ c ∈ words1.filter isCode, c.before args0 about1 = true := by
  rw [codes_eq]
  intro c hc
  simp only [codes1, List.mem_cons, List.not_mem_nil, or_false] at hc
  rcases hc with rfl | rfl | rfl | rfl | rfl | rfl | rfl | rfl | rfl | rfl | rfl | rfl | rfl | rfl | rfl | rfl | rfl | rfl | rfl | rfl | rfl | rfl
  · exact w_c0
  · exact w_c1
  · exact w_c2
  · exact w_c3
  · exact w_c4
  · exact w_c5
  · exact w_c6
  · exact w_c7
  · exact w_c8
  · exact w_c9
  · exact w_c10
  · exact w_c11
  · exact w_c12
  · exact w_c13
  · exact w_c14
  · exact w_c15
  · exact w_c16
  · exact w_c17
  · exact w_c18
  · exact w_c19
  · exact w_c20
  · exact w_c21
set_option maxRecDepth 65536 in
theorem w_t1 : (words1.take 24).all (fun c => isCode c || c.before args0 about1) = true := by decide +kernel
set_option maxRecDepth 65536 in
theorem w_t2 : ((words1.drop 24).take 24).all (fun c => isCode c || c.before args0 about1) = true := by decide +kernel
set_option maxRecDepth 65536 in
theorem w_t3 : (((words1.drop 24).drop 24).take 24).all (fun c => isCode c || c.before args0 about1) = true := by decide +kernel
set_option maxRecDepth 65536 in
theorem w_t4 : ((((words1.drop 24).drop 24).drop 24).take 24).all (fun c => isCode c || c.before args0 about1) = true := by decide +kernel
set_option maxRecDepth 65536 in
theorem w_t5 : ((((words1.drop 24).drop 24).drop 24).drop 24).all (fun c => isCode c || c.before args0 about1) = true := by decide +kernel
theorem w_tables : (allAtoms (Jvm.Cond.code x code maxLocals ret :: tables_1)).before args0 about1 = true := by
  rw [allAtoms_all]
  show words1.all (fun c => c.before args0 about1) = true
  refine all_split ?_ w_codes
  rw [← List.take_append_drop 24 words1, List.all_append, w_t1, ← List.take_append_drop 24 (words1.drop 24), List.all_append, w_t2, ← List.take_append_drop 24 ((words1.drop 24).drop 24), List.all_append, w_t3, ← List.take_append_drop 24 (((words1.drop 24).drop 24).drop 24), List.all_append, w_t4, w_t5]
  rfl
set_option maxRecDepth 65536 in
theorem w_rest : rest_1_c.before args0 about1 = true := by decide +kernel
set_option maxRecDepth 65536 in
theorem w_case : (Jvm.Cond.and given_1 narrow_1).before args0 about1 = true := by decide +kernel
set_option maxRecDepth 65536 in
theorem w_consts : constsHeld consts_1 about1 := Jvm.Lit.constsHeldB_iff.mp (by decide +kernel)
theorem w_applies : (headSpec (Jvm.Cond.code x code maxLocals ret :: tables_1) room_1).applies x e0.platform about1 = true :=
  (Spec.applies_iff w_frames).mpr ⟨w_running, w_runnable, w_alone, w_named, w_hears, w_ripe, w_room, w_tables⟩
theorem atStart : AtStart classFile x code maxLocals ret World_1 tables_1 room_1 Calls_1 rest_1 Pre_1 launch0 p0 e0 about1 theMethod args0 below0 :=
  ⟨lists_1, trivial, launch0.admits_env _ _ _, launch0.least_env, fairChoices_fair.cas, fairChoices_fair.clock, w_frames, w_args, w_heap, w_applies, ⟨w_consts, trivial⟩, w_rest, w_case⟩
end start1
theorem witness_1 : WitnessClaimed_1 := ⟨start1.p0, start1.e0, start1.about1, start1.theMethod, start1.args0, start1.below0, start1.atStart⟩
end Jvm.Pilot.@@N@@
