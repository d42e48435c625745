import JvmDerived
import JvmDerived.Pilot.@@N@@Statement
import JvmDerived.Pilot.@@N@@Code
set_option linter.unusedVariables false
set_option linter.unusedSimpArgs false
@@BLOCK:NumsL.lean.txt@@
namespace Jvm.Pilot.@@N@@
open Jvm Jvm.ClassFile Sem Op Lib Jvm.Free Jvm.Stand Jvm.LawKit Jvm.RoadKit Bundle Jvm.Pilot.@@N@@.Jvm.D
theorem own_w {Z : State} {a0 : Array Value} (hw : ∀ d ∈ tables_1, d.before a0 Z = true) (i : Nat) {d : Jvm.Cond} (h : tables_1[i]? = some d) : d.before a0 Z = true := hw _ (List.mem_of_getElem? h)
section OwnKit
variable {p : Program} {l : Launch} {e : Env} {R : Room} {s : State} {m : MethodId} {args : Array Value} {below : List Frame} {meth : Method} {c : Code} {T T' : State} {locs : List Loc} {cells slots : Nat} {Q : Option Value → Heap → List Loc → Prop} {k n : Nat} {Fin : Outcome → State → Prop} {Z : State} {a0 : Array Value} {h : Heap} {pc : Nat} {Ls : Array Slot} {rest : List Value}
/-- from this frame on the body ends as Fin says -/
def own_Go (p : Program) (e : Env) (below : List Frame) (Fin : Outcome → State → Prop) (T : State) (f : JFrame) : Prop :=
  ∃ s₂ o, Steps p.tables e below (T.setTop f) s₂ ∧ s₂.status = .running ∧ Ended s₂ below o ∧ Fin o s₂
/-- it returned, as Q says; the frame as ever -/
def own_Fin (s : State) (Q : Option Value → Heap → List Loc → Prop) (k n : Nat) (o : Outcome) (t : State) : Prop := ∃ v L, o = .returned v ∧ Q v t.heap L ∧ FrameEnd s o t L k n
/-- it returned, as Q says; String constants may have been resolved -/
def own_FinW (s : State) (Q : Option Value → Heap → List Loc → Prop) (k n : Nat) (o : Outcome) (t : State) : Prop := ∃ v L, o = .returned v ∧ Q v t.heap L ∧ ReturnedEndW s o t L k n
theorem own_by {f f' : JFrame} (st : ∀ t, Steps p.tables e below (T'.setTop f') t → Steps p.tables e below (T.setTop f) t) (g : own_Go p e below Fin T' f') : own_Go p e below Fin T f := by
  obtain ⟨s₂, o, h, r⟩ := g
  exact ⟨s₂, o, st _ h, r⟩
theorem own_start {f f' : JFrame} (q : f = f') (g : own_Go p e below (own_Fin s Q k n) T f') : ∃ s₂ o, Steps p.tables e below (T.setTop f) s₂ ∧ s₂.status = .running ∧ Ended s₂ below o ∧ ∃ v L, o = .returned v ∧ Q v s₂.heap L ∧ FrameEnd s o s₂ L k n := by
  subst q; exact g
theorem own_startW {f f' : JFrame} (q : f = f') (g : own_Go p e below (own_FinW s Q k n) T f') : ∃ s₂ o, Steps p.tables e below (T.setTop f) s₂ ∧ s₂.status = .running ∧ Ended s₂ below o ∧ ∃ v L, o = .returned v ∧ Q v s₂.heap L ∧ ReturnedEndW s o s₂ L k n := by
  subst q; exact g
theorem own_ret (X : Stand p l e R s m args below meth c T locs cells slots) (hx : p.tables.exec = Jvm.exec) (hlk : meth.locks = false) {w : Value} {t : FieldType} {i : Instr} (hret : meth.sig.returnType = some t)
    (hi : (i = .ireturn ∧ (t = .int ∨ t = .boolean ∨ t = .byte ∨ t = .char ∨ t = .short) ∧ ∃ z, w = .int z) ∨ (i = .lreturn ∧ t = .long ∧ ∃ z, w = .long z) ∨ (i = .dreturn ∧ t = .double ∧ ∃ z, w = .double z) ∨ (i = .freturn ∧ t = .float ∧ ∃ z, w = .float z) ∨ (i = .areturn ∧ t.isReference = true ∧ w.isRef = true))
    (hn : narrow t w = w) (hd : decode c.code pc = .ok (i, 1)) (eT : T.heap = h) (hk : cells ≤ k) (hs : slots ≤ n) (q : Q (some w) h locs) : own_Go p e below (own_Fin s Q k n) T (mkF m pc Ls (w :: rest)) := by
  obtain ⟨fs, hr, hrun, hended, hW, hsame⟩ := X.leave (v := some w) (fun h => by rw [hret] at h; cases h) hlk
  refine ⟨_, _, retOut X hx hret hn hi hd hr, hrun, hended, _, _, rfl, ?_, ⟨_, rfl⟩, hW, hsame.mono hk hs⟩
  show Q _ T.heap _
  rw [eT]; exact q
theorem own_retI (X : Stand p l e R s m args below meth c T locs cells slots) (hx : p.tables.exec = Jvm.exec) (hlk : meth.locks = false) {z : Int32} (hret : meth.sig.returnType = some .int) (hd : decode c.code pc = .ok (.ireturn, 1)) (eT : T.heap = h) (hk : cells ≤ k) (hs : slots ≤ n) (q : Q (some (.int z)) h locs) : own_Go p e below (own_Fin s Q k n) T (mkF m pc Ls (.int z :: rest)) :=
  own_ret X hx hlk hret (Or.inl ⟨rfl, Or.inl rfl, z, rfl⟩) rfl hd eT hk hs q
theorem own_retZ (X : Stand p l e R s m args below meth c T locs cells slots) (hx : p.tables.exec = Jvm.exec) (hlk : meth.locks = false) {z : Int32} (hret : meth.sig.returnType = some .boolean) (hz : z = 0 ∨ z = 1) (hd : decode c.code pc = .ok (.ireturn, 1)) (eT : T.heap = h) (hk : cells ≤ k) (hs : slots ≤ n) (q : Q (some (.int z)) h locs) : own_Go p e below (own_Fin s Q k n) T (mkF m pc Ls (.int z :: rest)) :=
  own_ret X hx hlk hret (Or.inl ⟨rfl, Or.inr (Or.inl rfl), z, rfl⟩) (by rcases hz with rfl | rfl <;> rfl) hd eT hk hs q
theorem own_retJ (X : Stand p l e R s m args below meth c T locs cells slots) (hx : p.tables.exec = Jvm.exec) (hlk : meth.locks = false) {z : Int64} (hret : meth.sig.returnType = some .long) (hd : decode c.code pc = .ok (.lreturn, 1)) (eT : T.heap = h) (hk : cells ≤ k) (hs : slots ≤ n) (q : Q (some (.long z)) h locs) : own_Go p e below (own_Fin s Q k n) T (mkF m pc Ls (.long z :: rest)) :=
  own_ret X hx hlk hret (Or.inr (Or.inl ⟨rfl, rfl, z, rfl⟩)) rfl hd eT hk hs q
theorem own_retR (X : Stand p l e R s m args below meth c T locs cells slots) (hx : p.tables.exec = Jvm.exec) (hlk : meth.locks = false) {w : Value} {t : FieldType} (hret : meth.sig.returnType = some t) (ht : t.isReference = true) (hw : w.isRef = true) (hn : narrow t w = w) (hd : decode c.code pc = .ok (.areturn, 1)) (eT : T.heap = h) (hk : cells ≤ k) (hs : slots ≤ n) (q : Q (some w) h locs) : own_Go p e below (own_Fin s Q k n) T (mkF m pc Ls (w :: rest)) :=
  own_ret X hx hlk hret (Or.inr (Or.inr (Or.inr (Or.inr ⟨rfl, ht, hw⟩)))) hn hd eT hk hs q
theorem own_retV (X : Stand p l e R s m args below meth c T locs cells slots) (hx : p.tables.exec = Jvm.exec) (hlk : meth.locks = false) (hret : meth.sig.returnType = none) (hd : decode c.code pc = .ok (.return_, 1)) (eT : T.heap = h) (hk : cells ≤ k) (hs : slots ≤ n) (q : Q none h locs) : own_Go p e below (own_Fin s Q k n) T (mkF m pc Ls []) := by
  obtain ⟨fs, hr, hrun, hended, hW, hsame⟩ := X.leave (v := none) (fun _ => rfl) hlk
  refine ⟨_, _, X.returnOut hx hret hd hr, hrun, hended, _, _, rfl, ?_, ⟨_, rfl⟩, hW, hsame.mono hk hs⟩
  show Q _ T.heap _
  rw [eT]; exact q
/-- a conditional branch as a plain comparison -/
def own_cnd : ClassFile.Cond → Int32 → Int32 → Prop
  | .eq, x, y => x = y
  | .ne, x, y => ¬ x = y
  | .lt, x, y => x < y
  | .ge, x, y => ¬ x < y
  | .gt, x, y => y < x
  | .le, x, y => ¬ y < x
def own_neg : ClassFile.Cond → ClassFile.Cond
  | .eq => .ne
  | .ne => .eq
  | .lt => .ge
  | .ge => .lt
  | .gt => .le
  | .le => .gt
theorem own_holds (cd : ClassFile.Cond) (x y : Int32) : (if_icmp.holds cd x y = true ∧ own_cnd cd x y) ∨ (if_icmp.holds cd x y = false ∧ own_cnd (own_neg cd) x y) := by
  cases cd
  case eq => by_cases q : x = y; · exact Or.inl ⟨(teq q).1, q⟩
             · exact Or.inr ⟨(feq q).1, q⟩
  case ne => by_cases q : x = y; · exact Or.inr ⟨(teq q).2, q⟩
             · exact Or.inl ⟨(feq q).2, q⟩
  case lt => by_cases q : x < y; · exact Or.inl ⟨(tlt q).1, q⟩
             · exact Or.inr ⟨(flt q).1, q⟩
  case ge => by_cases q : x < y; · exact Or.inr ⟨(tlt q).2.1, q⟩
             · exact Or.inl ⟨(flt q).2.1, q⟩
  case gt => by_cases q : y < x; · exact Or.inl ⟨(tlt q).2.2.1, q⟩
             · exact Or.inr ⟨(flt q).2.2.1, q⟩
  case le => by_cases q : y < x; · exact Or.inr ⟨(tlt q).2.2.2, q⟩
             · exact Or.inl ⟨(flt q).2.2.2, q⟩
theorem own_icmp (X : Stand p l e R s m args below meth c T locs cells slots) (hx : p.tables.exec = Jvm.exec) {cd : ClassFile.Cond} {x y : Int32} {o : Int} (pc' : Nat) (hd : decode c.code pc = .ok (.if_icmp cd o, 3)) (ho : 0 ≤ (pc : Int) + o) (hp : ((pc : Int) + o).toNat = pc')
    (g1 : own_cnd cd x y → own_Go p e below Fin T (mkF m pc' Ls rest)) (g2 : own_cnd (own_neg cd) x y → own_Go p e below Fin T (mkF m (pc + 3) Ls rest)) : own_Go p e below Fin T (mkF m pc Ls (.int y :: .int x :: rest)) := by
  rcases own_holds cd x y with ⟨q, q'⟩ | ⟨q, q'⟩
  · exact own_by (fun t kk => XS.icmpYes X.here hx rfl (pc0 := pc) (pc' := pc') rfl hd rfl q ho hp kk) (g1 q')
  · exact own_by (fun t kk => XS.icmpNo X.here hx rfl hd rfl q kk) (g2 q')
theorem own_if (X : Stand p l e R s m args below meth c T locs cells slots) (hx : p.tables.exec = Jvm.exec) {cd : ClassFile.Cond} {x : Int32} {o : Int} (pc' : Nat) (hd : decode c.code pc = .ok (.ifCond cd o, 3)) (ho : 0 ≤ (pc : Int) + o) (hp : ((pc : Int) + o).toNat = pc')
    (g1 : own_cnd cd x 0 → own_Go p e below Fin T (mkF m pc' Ls rest)) (g2 : own_cnd (own_neg cd) x 0 → own_Go p e below Fin T (mkF m (pc + 3) Ls rest)) : own_Go p e below Fin T (mkF m pc Ls (.int x :: rest)) := by
  rcases own_holds cd x 0 with ⟨q, q'⟩ | ⟨q, q'⟩
  · exact own_by (fun t kk => XS.ifYes X.here hx rfl (pc0 := pc) (pc' := pc') rfl hd rfl ((if0 _ _).trans q) ho hp kk) (g1 q')
  · exact own_by (fun t kk => XS.ifNo X.here hx rfl hd rfl ((if0 _ _).trans q) kk) (g2 q')
/-- a static call by the callee's contract -/
theorem own_callS (X : Stand p l e R s m args below meth c T locs cells slots) (hx : p.tables.exec = Jvm.exec) (hZ : Z.Warmed39 s.vm) {own : String} {index : Nat} {y : MethodName} {bytes : ByteArray} {maxL W : Nat} {ret : Option FieldType} {rm : Room} {Qc : Option Value → Heap → List Loc → Prop}
    (hown : s.vm.findClass own = some m.cls) (w1 : (Cond.methodLink own index y).before a0 Z = true) (w2 : (Cond.static y).before a0 Z = true) (w3 : (Cond.initialized y.cls).before a0 Z = true) (w4 : (Cond.code y bytes maxL ret).before a0 Z = true)
    (hy : y.cls ≠ "java/lang/invoke/MethodHandle" ∧ y.cls ≠ "java/lang/invoke/VarHandle") (hml : Ls.size = c.maxLocals) {argsL : List Value} {ps : List FieldType} {rt : Option FieldType} (pd : parseMethodDescriptor y.desc = some ⟨ps, rt⟩) (hlen : argsL.length = ps.length)
    (hM : MetFree l y (head1 [Cond.code y bytes maxL ret] rm) (fun a U => a = argsL.toArray ∧ Z.Warmed39 U.vm ∧ U.heap = h) (fun _ _ _ _ _ => True) (fun _ U o U' => ∃ v L, o = .returned v ∧ Qc v U'.heap L ∧ FrameEnd U o U' L rm.cells rm.slots))
    (hf : rm.frames + 1 ≤ R.frames) (hl : W + (maxL + 11) + rm.locals ≤ R.locals) (hW : (rest.map fun v => v.category).sum ≤ W) (hc : cells + rm.cells ≤ R.cells) (hs : slots + rm.slots ≤ R.slots) (eT : T.heap = h) {st : List Value} (hst : st = argsL.reverse ++ rest) (hd : decode c.code pc = .ok (.invokestatic index, 3))
    (g : ∀ (v : Option Value) (T' : State) (L : List Loc), Stand p l e R s m args below meth c T' (locs ++ L) (cells + rm.cells) (slots + rm.slots) → Qc v T'.heap L → own_Go p e below Fin T' (mkF m (pc + 3) Ls (v.toList ++ rest))) :
    own_Go p e below Fin T (mkF m pc Ls st) := by
  subst hst
  obtain ⟨v, _, ⟨T2, L2, k2, n2⟩, -, X2, ⟨Lc2, hQ2, l2, y2, z2⟩, st2⟩ := Jvm.LawKit.callS X hx (y := y) hown (mvT hZ w1) (mvT hZ w2) (mvT hZ w3) (mvT hZ w4) hy (backOf (W := W) hM hZ w4 w3 hf hl) (g := (mkF m pc Ls (argsL.reverse ++ rest))) rfl hml (argsL := argsL) (rest := rest) (lenOf pd hlen) rfl (by show 2 * 0 + _ ≤ _; omega) hd (fun _ _ => ⟨rfl, eT, hc, hs⟩)
  dsimp only [Pt.U, Pt.locs, Pt.cells, Pt.slots] at X2 l2 y2 z2 st2 hQ2
  subst l2 y2 z2
  exact own_by (fun t kk => st2 _ kk) (g v T2 Lc2 X2 hQ2)
/-- a constructor by its contract -/
theorem own_callC (X : Stand p l e R s m args below meth c T locs cells slots) (hx : p.tables.exec = Jvm.exec) (hZ : Z.Warmed39 s.vm) {own : String} {index : Nat} {y : MethodName} {bytes : ByteArray} {maxL W : Nat} {rm : Room} {Qc : Option Value → Heap → List Loc → Prop} (hy1 : y.name = "<init>")
    (hown : s.vm.findClass own = some m.cls) (w1 : (Cond.methodLink own index y).before a0 Z = true) (w2 : (Cond.instanceMethod y).before a0 Z = true) (w3 : (Cond.initialized y.cls).before a0 Z = true) (w4 : (Cond.code y bytes maxL none).before a0 Z = true)
    (hy : y.cls ≠ "java/lang/invoke/MethodHandle" ∧ y.cls ≠ "java/lang/invoke/VarHandle") (hml : Ls.size = c.maxLocals) {a : Addr} {argsL : List Value} {ps : List FieldType} {rt : Option FieldType} (pd : parseMethodDescriptor y.desc = some ⟨ps, rt⟩) (hlen : argsL.length = ps.length)
    (hM : MetFree l y (head1 [Cond.code y bytes maxL none] rm) (fun b U => b = (.ref a :: argsL).toArray ∧ Z.Warmed39 U.vm ∧ U.heap = h) (fun _ _ _ _ _ => True) (fun _ U o U' => ∃ v L, o = .returned v ∧ Qc v U'.heap L ∧ FrameEnd U o U' L rm.cells rm.slots))
    (hf : rm.frames + 1 ≤ R.frames) (hl : W + (maxL + 11) + rm.locals ≤ R.locals) (hW : (rest.map fun v => v.category).sum ≤ W) (hc : cells + rm.cells ≤ R.cells) (hs : slots + rm.slots ≤ R.slots) (eT : T.heap = h) {st : List Value} (hst : st = argsL.reverse ++ .ref a :: rest) (hd : decode c.code pc = .ok (.invokespecial index, 3))
    (g : ∀ (v : Option Value) (T' : State) (L : List Loc), Stand p l e R s m args below meth c T' (locs ++ L) (cells + rm.cells) (slots + rm.slots) → Qc v T'.heap L → own_Go p e below Fin T' (mkF m (pc + 3) Ls (v.toList ++ rest))) :
    own_Go p e below Fin T (mkF m pc Ls st) := by
  subst hst
  obtain ⟨v, _, ⟨T2, L2, k2, n2⟩, -, X2, ⟨Lc2, hQ2, l2, y2, z2⟩, st2⟩ := X.specialBack hx (y := y) hy1 hown (mvT hZ w1) (mvT hZ w2) (mvT hZ w4) hy (backOf (W := W) hM hZ w4 w3 hf hl) (g := (mkF m pc Ls (argsL.reverse ++ .ref a :: rest))) rfl hml (Steps.refl _) (a := a) (argsL := argsL) (rest := rest) (lenOf pd hlen) rfl (by show 2 * 0 + _ ≤ _; omega) hd (fun _ _ => ⟨rfl, eT, hc, hs⟩)
  dsimp only [Pt.U, Pt.locs, Pt.cells, Pt.slots] at X2 l2 y2 z2 st2 hQ2
  subst l2 y2 z2
  exact own_by (fun t kk => st2.trans kk) (g v T2 Lc2 X2 hQ2)
/-- an instance method of the receiver's own class by its contract -/
theorem own_callV (X : Stand p l e R s m args below meth c T locs cells slots) (hx : p.tables.exec = Jvm.exec) (hZ : Z.Warmed39 s.vm) {own C : String} {index : Nat} {y z : MethodName} {bytes : ByteArray} {maxL W : Nat} {ret : Option FieldType} {rm : Room} {Qc : Option Value → Heap → List Loc → Prop}
    (hown : s.vm.findClass own = some m.cls) (w1 : (Cond.methodLink own index y).before a0 Z = true) (wd : (Cond.declares y).before a0 Z = true) (nf : NotFace s y) (ws : (Cond.selects C y z).before a0 Z = true) (w2 : (Cond.instanceMethod z).before a0 Z = true) (w3 : (Cond.initialized z.cls).before a0 Z = true) (w4 : (Cond.code z bytes maxL ret).before a0 Z = true)
    (hy : y.cls ≠ "java/lang/invoke/MethodHandle" ∧ y.cls ≠ "java/lang/invoke/VarHandle") (hml : Ls.size = c.maxLocals) {a : Addr} {argsL : List Value} {ps : List FieldType} {rt : Option FieldType} (pd : parseMethodDescriptor y.desc = some ⟨ps, rt⟩) (hlen : argsL.length = ps.length)
    (eT : T.heap = h) (E : Exa Z h a C)
    (hM : MetFree l z (head1 [Cond.code z bytes maxL ret] rm) (fun b U => b = (.ref a :: argsL).toArray ∧ Z.Warmed39 U.vm ∧ U.heap = h) (fun _ _ _ _ _ => True) (fun _ U o U' => ∃ v L, o = .returned v ∧ Qc v U'.heap L ∧ FrameEnd U o U' L rm.cells rm.slots))
    (hf : rm.frames + 1 ≤ R.frames) (hl : W + (maxL + 11) + rm.locals ≤ R.locals) (hW : (rest.map fun v => v.category).sum ≤ W) (hc : cells + rm.cells ≤ R.cells) (hs : slots + rm.slots ≤ R.slots) {st : List Value} (hst : st = argsL.reverse ++ .ref a :: rest) (hd : decode c.code pc = .ok (.invokevirtual index, 3))
    (g : ∀ (v : Option Value) (T' : State) (L : List Loc), Stand p l e R s m args below meth c T' (locs ++ L) (cells + rm.cells) (slots + rm.slots) → Qc v T'.heap L → own_Go p e below Fin T' (mkF m (pc + 3) Ls (v.toList ++ rest))) :
    own_Go p e below Fin T (mkF m pc Ls st) := by
  subst hst
  obtain ⟨cq, kq, qa, qb, qc⟩ := isOf hZ eT E
  obtain ⟨v, _, ⟨T2, L2, k2, n2⟩, -, X2, ⟨Lc2, hQ2, l2, y2, z2⟩, st2⟩ := X.virtualBack hx (y := y) (z := z) hown (mvT hZ w1) (mvT hZ wd) nf (mvT hZ ws) (mvT hZ w2) hy (backOf (W := W) hM hZ w4 w3 hf hl) qa qc (g := (mkF m pc Ls (argsL.reverse ++ .ref a :: rest))) rfl hml (Steps.refl _) (argsL := argsL) (rest := rest) (lenOf pd hlen) rfl (by show 2 * 0 + _ ≤ _; omega) hd (fun _ _ => ⟨rfl, eT, hc, hs⟩)
  dsimp only [Pt.U, Pt.locs, Pt.cells, Pt.slots] at X2 l2 y2 z2 st2 hQ2
  subst l2 y2 z2
  exact own_by (fun t kk => st2.trans kk) (g v T2 Lc2 X2 hQ2)
theorem own_getF (X : Stand p l e R s m args below meth c T locs cells slots) (hx : p.tables.exec = Jvm.exec) (hZ : Z.Warmed39 s.vm) {own R0 O nm d : String} {index : Nat} (hown : s.vm.findClass own = some m.cls) (w : (Cond.fieldLink own index R0 nm d).before a0 Z = true) (via : Via Z R0 O nm d) (eT : T.heap = h) {a : Addr} {v : Value} (F : Fld Z h a O nm d v) (hd : decode c.code pc = .ok (.getfield index, 3))
    (g : ∀ T', Stand p l e R s m args below meth c T' locs cells slots → T'.heap = h → own_Go p e below Fin T' (mkF m (pc + 3) Ls (v :: rest))) : own_Go p e below Fin T (mkF m pc Ls (.ref a :: rest)) := by
  obtain ⟨T', X', e', st⟩ := getF X hx hZ hown (host := "") (Or.inl w) via eT F (g := mkF m pc Ls (.ref a :: rest)) rfl rfl hd
  exact own_by (fun t kk => st _ kk) (g T' X' e')
theorem own_getFN (X : Stand p l e R s m args below meth c T locs cells slots) (hx : p.tables.exec = Jvm.exec) (hZ : Z.Warmed39 s.vm) {own R0 O nm d host : String} {index : Nat} (hown : s.vm.findClass own = some m.cls) (w : (Cond.fieldLinkNest own index R0 nm d host).before a0 Z = true) (via : Via Z R0 O nm d) (eT : T.heap = h) {a : Addr} {v : Value} (F : Fld Z h a O nm d v) (hd : decode c.code pc = .ok (.getfield index, 3))
    (g : ∀ T', Stand p l e R s m args below meth c T' locs cells slots → T'.heap = h → own_Go p e below Fin T' (mkF m (pc + 3) Ls (v :: rest))) : own_Go p e below Fin T (mkF m pc Ls (.ref a :: rest)) := by
  obtain ⟨T', X', e', st⟩ := getF X hx hZ hown (Or.inr w) via eT F (g := mkF m pc Ls (.ref a :: rest)) rfl rfl hd
  exact own_by (fun t kk => st _ kk) (g T' X' e')
theorem own_getS (X : Stand p l e R s m args below meth c T locs cells slots) (hx : p.tables.exec = Jvm.exec) (hZ : Z.Warmed39 s.vm) {own R0 O nm d : String} {index : Nat} (hown : s.vm.findClass own = some m.cls) (w : (Cond.fieldLink own index R0 nm d).before a0 Z = true) (via : Via Z R0 O nm d) (eT : T.heap = h) {v : Value} (F : Sta Z h O nm d v) (hd : decode c.code pc = .ok (.getstatic index, 3)) {st0 : List Value}
    (g : ∀ T', Stand p l e R s m args below meth c T' locs cells slots → T'.heap = h → own_Go p e below Fin T' (mkF m (pc + 3) Ls (v :: st0))) : own_Go p e below Fin T (mkF m pc Ls st0) := by
  obtain ⟨T', X', e', st⟩ := getS2 X hx hZ hown (host := "") (Or.inl w) via eT F (g := mkF m pc Ls st0) rfl hd
  exact own_by (fun t kk => st _ kk) (g T' X' e')
theorem own_getSN (X : Stand p l e R s m args below meth c T locs cells slots) (hx : p.tables.exec = Jvm.exec) (hZ : Z.Warmed39 s.vm) {own R0 O nm d host : String} {index : Nat} (hown : s.vm.findClass own = some m.cls) (w : (Cond.fieldLinkNest own index R0 nm d host).before a0 Z = true) (via : Via Z R0 O nm d) (eT : T.heap = h) {v : Value} (F : Sta Z h O nm d v) (hd : decode c.code pc = .ok (.getstatic index, 3)) {st0 : List Value}
    (g : ∀ T', Stand p l e R s m args below meth c T' locs cells slots → T'.heap = h → own_Go p e below Fin T' (mkF m (pc + 3) Ls (v :: st0))) : own_Go p e below Fin T (mkF m pc Ls st0) := by
  obtain ⟨T', X', e', st⟩ := getS2 X hx hZ hown (Or.inr w) via eT F (g := mkF m pc Ls st0) rfl hd
  exact own_by (fun t kk => st _ kk) (g T' X' e')
theorem own_putF (X : Stand p l e R s m args below meth c T locs cells slots) (hx : p.tables.exec = Jvm.exec) (hZ : Z.Warmed39 s.vm) {own R0 O nm d C : String} {index kk : Nat} {ty : FieldType} (hown : s.vm.findClass own = some m.cls) (w : (Cond.fieldLink own index R0 nm d).before a0 Z = true) (via : Via Z R0 O nm d) (eT : T.heap = h) {a : Addr} {v old : Value} (F : Fld Z h a O nm d old) (E : Exa Z h a C)
    (L : (Cond.lays C O nm d).before a0 Z = true ∨ ((Cond.laysFinal C O nm d).before a0 Z = true ∧ own = O ∧ meth.name = "<init>")) (wi : (Cond.instantiable C kk).before a0 Z = true) (hty : parseFieldDescriptor d = some ty) (hn : narrow ty v = v) (hf : fits ty v = true) (hd : decode c.code pc = .ok (.putfield index, 3))
    (g : ∀ T' h', Stand p l e R s m args below meth c T' (locs ++ [⟨a, Jvm.RoadKit.slotOf Z O nm d⟩]) cells slots → T'.heap = h' → Wr h h' a (Jvm.RoadKit.slotOf Z O nm d) v → own_Go p e below Fin T' (mkF m (pc + 3) Ls rest)) : own_Go p e below Fin T (mkF m pc Ls (v :: .ref a :: rest)) := by
  obtain ⟨T', h', X', e', W', st⟩ := putF X hx hZ hown (host := "") (Or.inl w) via eT F E L wi hty hn hf (g := mkF m pc Ls (v :: .ref a :: rest)) rfl rfl hd
  exact own_by (fun t kk => st _ kk) (g T' h' X' e' W')
theorem own_newO (X : Stand p l e R s m args below meth c T locs cells slots) (hx : p.tables.exec = Jvm.exec) (hZ : Z.Warmed39 s.vm) {own C : String} {index nn : Nat} (hown : s.vm.findClass own = some m.cls) (w : (Cond.classLink own index C).before a0 Z = true) (wi : (Cond.instantiable C nn).before a0 Z = true) (wz : (Cond.initialized C).before a0 Z = true) (eT : T.heap = h) (hd : decode c.code pc = .ok (.new index, 3)) (hc : cells + 1 ≤ R.cells) (hl : slots + nn ≤ R.slots) {st0 : List Value}
    (g : ∀ T' h' (b : Addr), Stand p l e R s m args below meth c T' locs (cells + 1) (slots + nn) → T'.heap = h' → b = h.size → Ext h h' → Exa Z h' b C → (∀ {O nm d : String} {ty : FieldType}, Laid Z a0 C O nm d → parseFieldDescriptor d = some ty → Fld Z h' b O nm d (defaultValue ty)) → own_Go p e below Fin T' (mkF m (pc + 3) Ls (.ref b :: st0))) : own_Go p e below Fin T (mkF m pc Ls st0) := by
  obtain ⟨T', h', X', e', E', A', D', -, st⟩ := newO X hx hZ hown w wi wz eT (g := mkF m pc Ls st0) rfl hd hc hl
  exact own_by (fun t kk => st _ kk) (g T' h' _ X' e' rfl E' A' D')
theorem own_initO (X : Stand p l e R s m args below meth c T locs cells slots) (hx : p.tables.exec = Jvm.exec) (hZ : Z.Warmed39 s.vm) {own : String} {idx : Nat} (hown : s.vm.findClass own = some m.cls) (w1 : (Cond.methodLink own idx Lib.objectInit).before a0 Z = true) (w2 : (Cond.instanceMethod Lib.objectInit).before a0 Z = true) (w3 : (Cond.code Lib.objectInit ⟨#[0xb1]⟩ 1 none).before a0 Z = true) (eT : T.heap = h) (hml : Ls.size = c.maxLocals) {a : Addr} (hd : decode c.code pc = .ok (.invokespecial idx, 3)) (hf : 1 ≤ R.frames) {W : Nat} (hW : (rest.map fun v => v.category).sum ≤ W) (hl : W + 12 ≤ R.locals)
    (g : ∀ T', Stand p l e R s m args below meth c T' locs cells slots → T'.heap = h → own_Go p e below Fin T' (mkF m (pc + 3) Ls rest)) : own_Go p e below Fin T (mkF m pc Ls (.ref a :: rest)) := by
  obtain ⟨T', X', e', st⟩ := initO X hx hZ hown w1 w2 w3 eT (g := mkF m pc Ls (.ref a :: rest)) rfl hml rfl hd hf (W := W) (by show 2 * 0 + _ ≤ _; omega) hl
  exact own_by (fun t kk => st _ kk) (g T' X' e')
end OwnKit
section OwnMore
variable {p : Program} {l : Launch} {e : Env} {R : Room} {s : State} {m : MethodId} {args : Array Value} {below : List Frame} {meth : Method} {c : Code} {T T' : State} {locs : List Loc} {cells slots : Nat} {Q : Option Value → Heap → List Loc → Prop} {k n : Nat} {Fin : Outcome → State → Prop} {Z : State} {a0 : Array Value} {h : Heap} {pc : Nat} {Ls : Array Slot} {rest : List Value}
theorem own_acmpEq (X : Stand p l e R s m args below meth c T locs cells slots) (hx : p.tables.exec = Jvm.exec) {a b : Addr} {o : Int} (pc' : Nat) (hd : decode c.code pc = .ok (.if_acmp .eq o, 3)) (ho : 0 ≤ (pc : Int) + o) (hp : ((pc : Int) + o).toNat = pc')
    (g1 : a = b → own_Go p e below Fin T (mkF m pc' Ls rest)) (g2 : ¬ a = b → own_Go p e below Fin T (mkF m (pc + 3) Ls rest)) : own_Go p e below Fin T (mkF m pc Ls (.ref b :: .ref a :: rest)) := by
  by_cases q : a = b
  · exact own_by (fun t kk => XT.acmpYes X.here hx rfl (pc0 := pc) (pc' := pc') rfl hd rfl rfl rfl (decide_eq_true (congrArg Value.ref q)) ho hp kk) (g1 q)
  · exact own_by (fun t kk => XT.acmpNo X.here hx rfl hd rfl rfl rfl (decide_eq_false fun z => q (Value.ref.inj z)) kk) (g2 q)
theorem own_acmpNe (X : Stand p l e R s m args below meth c T locs cells slots) (hx : p.tables.exec = Jvm.exec) {a b : Addr} {o : Int} (pc' : Nat) (hd : decode c.code pc = .ok (.if_acmp .ne o, 3)) (ho : 0 ≤ (pc : Int) + o) (hp : ((pc : Int) + o).toNat = pc')
    (g1 : ¬ a = b → own_Go p e below Fin T (mkF m pc' Ls rest)) (g2 : a = b → own_Go p e below Fin T (mkF m (pc + 3) Ls rest)) : own_Go p e below Fin T (mkF m pc Ls (.ref b :: .ref a :: rest)) := by
  by_cases q : a = b
  · exact own_by (fun t kk => XT.acmpNo X.here hx rfl hd rfl rfl rfl (decide_eq_false fun z => z (congrArg Value.ref q)) kk) (g2 q)
  · exact own_by (fun t kk => XT.acmpYes X.here hx rfl (pc0 := pc) (pc' := pc') rfl hd rfl rfl rfl (decide_eq_true fun z => q (Value.ref.inj z)) ho hp kk) (g1 q)
theorem own_eqI {args : Array Value} {t : Term} {x : Int32} (h : (Cond.eq t (.int x)).value args s none s [] = some true) : t.eval args s none [] s = some (.int x) := by
  have q : (Term.int x).eval args s none [] s = some (.int x) := rfl
  cases ht : t.eval args s none [] s with
  | none => simp [Cond.value, ht] at h
  | some w => cases w <;> simp [Cond.value, ht, q] at h <;> (try subst h) <;> simp_all
theorem own_enumF {args : Array Value} {C f d O nm dd : String} {a : Addr} {x : Int32} (ev : (Term.static C f d).eval args s none [] s = some (.ref a)) (h : (Cond.eq (Term.field (Term.static C f d) O nm dd) (.int x)).value args s none s [] = some true) : Fld s s.heap a O nm dd (.int x) :=
  Fld.start ((fld_at ev).symm.trans (own_eqI h))
theorem own_Sta_keep {Z : State} {h h' : Heap} {C n d : String} {v : Value} {ws : List Addr} (F : Sta Z h C n d v) (K : Keep h h' ws) (q : ∀ x ∈ ws, ∀ cell : Cell, h[x]? = some cell → cell.vm.isStatics = false) : Sta Z h' C n d v := by
  obtain ⟨cf, i, k, f, st, cell, h1, h2, h3, h4, h5, h6, h7⟩ := F
  exact ⟨cf, i, k, f, st, cell, h1, h2, h3, h4, K.2.1 st cell h5 (fun z => by rw [q st z cell h5] at h6; cases h6), h6, h7⟩
end OwnMore
section OwnArr
variable {p : Program} {l : Launch} {e : Env} {R : Room} {s : State} {m : MethodId} {args : Array Value} {below : List Frame} {meth : Method} {c : Code} {T T' : State} {locs : List Loc} {cells slots : Nat} {Q : Option Value → Heap → List Loc → Prop} {k n : Nat} {Fin : Outcome → State → Prop} {Z : State} {a0 : Array Value} {h h' : Heap} {pc : Nat} {Ls : Array Slot} {rest : List Value}
/-- the array at a holds just vs -/
def own_Arr (Z : State) (h : Heap) (a : Addr) (ty : FieldType) (vs : List Value) : Prop := ∃ cl : Cell, Arr Z h a cl ty ∧ cl.slots = vs.toArray ∧ vs.length < 2 ^ 31 ∧ ∀ v ∈ vs, fits ty v = true
section Facts
variable {a b : Addr} {ty : FieldType} {vs : List Value} {sl : Nat} {v : Value} {ws : List Addr}
theorem own_Arr.lt (F : own_Arr Z h a ty vs) : a < h.size := by obtain ⟨c, A, -⟩ := F; exact A.lt
theorem own_Arr.ext (F : own_Arr Z h a ty vs) (E : Ext h h') : own_Arr Z h' a ty vs := by obtain ⟨c, A, r⟩ := F; exact ⟨c, A.ext E, r⟩
theorem own_Arr.other (F : own_Arr Z h b ty vs) (W : Wr h h' a sl v) (q : b ≠ a) : own_Arr Z h' b ty vs := by obtain ⟨c, A, r⟩ := F; exact ⟨c, A.other W q, r⟩
theorem own_Arr.keep (F : own_Arr Z h a ty vs) (K : Keep h h' ws) (q : a ∉ ws) : own_Arr Z h' a ty vs := by obtain ⟨c, A, r⟩ := F; exact ⟨c, ⟨K.2.1 a c A.1 q, A.2⟩, r⟩
theorem own_Arr.set (F : own_Arr Z h a ty vs) (W : Wr h h' a sl v) (hv : fits ty v = true) : own_Arr Z h' a ty (vs.set sl v) := by
  obtain ⟨c, A, r1, r2, r3⟩ := F
  refine ⟨_, A.same W, ?_, by simpa using r2, fun u hu => ?_⟩
  rotate_left
  · rcases List.mem_or_eq_of_mem_set hu with q | q
    · exact r3 u q
    · rw [q]; exact hv
  show c.slots.setIfInBounds sl v = _
  rw [r1]; simp
theorem own_idx {j : Int32} {i : Nat} (hj : j.toInt = (i : Int)) : j.toNatClampNeg = i ∧ ¬ j < 0 := by
  constructor
  · show j.toInt.toNat = i
    rw [hj]; simp
  · rw [Int32.lt_iff_toInt_lt, hj]
    have : (0 : Int32).toInt = 0 := by decide
    omega
theorem own_inb {cl : Cell} {j : Int32} {i : Nat} (hj : j.toInt = (i : Int)) (hs : cl.slots = vs.toArray) (hi : i < vs.length) : ¬ (j < 0 ∨ cl.slots.size ≤ j.toNatClampNeg) := by
  obtain ⟨q1, q2⟩ := own_idx hj
  rw [q1, hs]
  intro q
  rcases q with q | q
  · exact q2 q
  · simp at q; omega
theorem own_lt_of {i : Nat} {v : Value} (hv : vs[i]? = some v) : i < vs.length := (List.getElem?_eq_some_iff.mp hv).1
theorem own_Arr.new {cA : ClassId} {j : Int32} {i : Nat} (A : Arr Z h a (newA cA ty j) ty) (hj : j.toInt = (i : Int)) : own_Arr Z h a ty (List.replicate i (defaultValue ty)) := by
  refine ⟨_, A, ?_, ?_, fun u hu => ?_⟩
  rotate_left 2
  · rw [(List.mem_replicate.mp hu).2]
    cases ty <;> rfl
  · show Array.replicate j.toNatClampNeg (defaultValue ty) = _
    rw [(own_idx hj).1]; simp
  · have := Int32.toInt_lt j
    simp; omega
end Facts
theorem own_newP (X : Stand p l e R s m args below meth c T locs cells slots) (hx : p.tables.exec = Jvm.exec) (hZ : Z.Warmed39 s.vm) {aty : ArrayType} (w : (Cond.arrayClass (newarray.typeOf aty)).before a0 Z = true) (eT : T.heap = h) (hd : decode c.code pc = .ok (.newarray aty, 2)) {j : Int32} (i cap : Nat) (hj : j.toInt = (i : Int)) (hcap : i ≤ cap) (hb : cap * 8 ≤ 536870912) (hc : cells + 1 ≤ R.cells) (hl : slots + cap ≤ R.slots)
    (g : ∀ T' h' (b : Addr), Stand p l e R s m args below meth c T' locs (cells + 1) (slots + cap) → T'.heap = h' → b = h.size → Ext h h' → own_Arr Z h' b (newarray.typeOf aty) (List.replicate i (defaultValue (newarray.typeOf aty))) → own_Go p e below Fin T' (mkF m (pc + 2) Ls (.ref b :: rest))) : own_Go p e below Fin T (mkF m pc Ls (.int j :: rest)) := by
  obtain ⟨q1, q2⟩ := own_idx hj
  obtain ⟨T', h', cA, X', e', E', A', st⟩ := newP X hx hZ w eT (g := mkF m pc Ls (.int j :: rest)) rfl hd rfl q2 (cap := cap) (by rw [q1]; exact hcap) hb hc hl
  exact own_by (fun t kk => st _ kk) (g T' h' _ X' e' rfl E' (own_Arr.new A' hj))
theorem own_iastore (X : Stand p l e R s m args below meth c T locs cells slots) (hx : p.tables.exec = Jvm.exec) (hZ : Z.Warmed39 s.vm) (eT : T.heap = h) {a : Addr} {vs : List Value} (A : own_Arr Z h a .int vs) {j x : Int32} (i : Nat) (hj : j.toInt = (i : Int)) (hi : i < vs.length) (hd : decode c.code pc = .ok (.iastore, 1))
    (g : ∀ T' h', Stand p l e R s m args below meth c T' (locs ++ [⟨a, i⟩]) cells slots → T'.heap = h' → Wr h h' a i (.int x) → own_Arr Z h' a .int (vs.set i (.int x)) → own_Go p e below Fin T' (mkF m (pc + 1) Ls rest)) : own_Go p e below Fin T (mkF m pc Ls (.int x :: .int j :: .ref a :: rest)) := by
  have A' := A
  obtain ⟨cl, A1, r1, r2⟩ := A
  obtain ⟨T', h', X', e', W', st⟩ := stI X hx hZ eT A1 (own_inb hj r1 hi) (g := mkF m pc Ls (.int x :: .int j :: .ref a :: rest)) rfl rfl hd
  rw [(own_idx hj).1] at X' W'
  exact own_by (fun t kk => st _ kk) (g T' h' X' e' W' (A'.set W' rfl))
theorem own_iaload (X : Stand p l e R s m args below meth c T locs cells slots) (hx : p.tables.exec = Jvm.exec) (hZ : Z.Warmed39 s.vm) (eT : T.heap = h) {a : Addr} {vs : List Value} (A : own_Arr Z h a .int vs) {j : Int32} {v : Value} (i : Nat) (hj : j.toInt = (i : Int)) (hv : vs[i]? = some v) (hd : decode c.code pc = .ok (.iaload, 1))
    (g : own_Go p e below Fin T (mkF m (pc + 1) Ls (v :: rest))) : own_Go p e below Fin T (mkF m pc Ls (.int j :: .ref a :: rest)) := by
  obtain ⟨cl, A1, r1, r2⟩ := A
  exact own_by (fun t kk => X.iaload hx (j := j) (v := v) (by rw [eT]; exact A1.1) (State.isArrayOf_alike hZ.alike A1.2.1) A1.2.2 (own_inb hj r1 (own_lt_of hv)) (by rw [(own_idx hj).1, r1]; simpa using hv) (g := mkF m pc Ls (.int j :: .ref a :: rest)) rfl rfl hd _ kk) g
theorem own_caload (X : Stand p l e R s m args below meth c T locs cells slots) (hx : p.tables.exec = Jvm.exec) (hZ : Z.Warmed39 s.vm) (eT : T.heap = h) {a : Addr} {vs : List Value} (A : own_Arr Z h a .char vs) {j : Int32} {v : Value} (i : Nat) (hj : j.toInt = (i : Int)) (hv : vs[i]? = some v) (hd : decode c.code pc = .ok (.caload, 1))
    (g : own_Go p e below Fin T (mkF m (pc + 1) Ls (v :: rest))) : own_Go p e below Fin T (mkF m pc Ls (.int j :: .ref a :: rest)) := by
  obtain ⟨cl, A1, r1, r2⟩ := A
  exact own_by (fun t kk => X.caload hx (j := j) (v := v) (by rw [eT]; exact A1.1) (State.isArrayOf_alike hZ.alike A1.2.1) A1.2.2 (own_inb hj r1 (own_lt_of hv)) (by rw [(own_idx hj).1, r1]; simpa using hv) (g := mkF m pc Ls (.int j :: .ref a :: rest)) rfl rfl hd _ kk) g
theorem own_baload (X : Stand p l e R s m args below meth c T locs cells slots) (hx : p.tables.exec = Jvm.exec) (hZ : Z.Warmed39 s.vm) (eT : T.heap = h) {a : Addr} {vs : List Value} (A : own_Arr Z h a .byte vs) {j : Int32} {v : Value} (i : Nat) (hj : j.toInt = (i : Int)) (hv : vs[i]? = some v) (hd : decode c.code pc = .ok (.baload, 1))
    (g : own_Go p e below Fin T (mkF m (pc + 1) Ls (v :: rest))) : own_Go p e below Fin T (mkF m pc Ls (.int j :: .ref a :: rest)) := by
  obtain ⟨cl, A1, r1, r2⟩ := A
  exact own_by (fun t kk => X.baloadBytes hx (j := j) (v := v) (by rw [eT]; exact A1.1) (State.isArrayOf_alike hZ.alike A1.2.1) A1.2.2 (own_inb hj r1 (own_lt_of hv)) (by rw [(own_idx hj).1, r1]; simpa using hv) (g := mkF m pc Ls (.int j :: .ref a :: rest)) rfl rfl hd _ kk) g
theorem own_laload (X : Stand p l e R s m args below meth c T locs cells slots) (hx : p.tables.exec = Jvm.exec) (hZ : Z.Warmed39 s.vm) (eT : T.heap = h) {a : Addr} {vs : List Value} (A : own_Arr Z h a .long vs) {j : Int32} {v : Value} (i : Nat) (hj : j.toInt = (i : Int)) (hv : vs[i]? = some v) (hd : decode c.code pc = .ok (.laload, 1))
    (g : own_Go p e below Fin T (mkF m (pc + 1) Ls (v :: rest))) : own_Go p e below Fin T (mkF m pc Ls (.int j :: .ref a :: rest)) := by
  obtain ⟨cl, A1, r1, r2⟩ := A
  exact own_by (fun t kk => X.laload hx (j := j) (v := v) (by rw [eT]; exact A1.1) (State.isArrayOf_alike hZ.alike A1.2.1) A1.2.2 (own_inb hj r1 (own_lt_of hv)) (by rw [(own_idx hj).1, r1]; simpa using hv) (g := mkF m pc Ls (.int j :: .ref a :: rest)) rfl rfl hd _ kk) g
theorem own_castore (X : Stand p l e R s m args below meth c T locs cells slots) (hx : p.tables.exec = Jvm.exec) (hZ : Z.Warmed39 s.vm) (eT : T.heap = h) {a : Addr} {vs : List Value} (A : own_Arr Z h a .char vs) {j : Int32} {x : Int32} (i : Nat) (hj : j.toInt = (i : Int)) (hi : i < vs.length) (hd : decode c.code pc = .ok (.castore, 1))
    (g : ∀ T' h', Stand p l e R s m args below meth c T' (locs ++ [⟨a, i⟩]) cells slots → T'.heap = h' → Wr h h' a i (.int (nar .char x)) → own_Arr Z h' a .char (vs.set i (.int (nar .char x))) → own_Go p e below Fin T' (mkF m (pc + 1) Ls rest)) : own_Go p e below Fin T (mkF m pc Ls (.int x :: .int j :: .ref a :: rest)) := by
  have A' := A
  obtain ⟨cl, A1, r1, r2⟩ := A
  obtain ⟨T', h', X', e', W', st⟩ := stC X hx hZ eT A1 (own_inb hj r1 hi) (g := mkF m pc Ls (.int x :: .int j :: .ref a :: rest)) rfl rfl hd
  rw [(own_idx hj).1] at X' W'
  exact own_by (fun t kk => st _ kk) (g T' h' X' e' W' (A'.set W' (fits_nar_char _)))
theorem own_bastore (X : Stand p l e R s m args below meth c T locs cells slots) (hx : p.tables.exec = Jvm.exec) (hZ : Z.Warmed39 s.vm) (eT : T.heap = h) {a : Addr} {vs : List Value} (A : own_Arr Z h a .byte vs) {j : Int32} {x : Int32} (i : Nat) (hj : j.toInt = (i : Int)) (hi : i < vs.length) (hd : decode c.code pc = .ok (.bastore, 1))
    (g : ∀ T' h', Stand p l e R s m args below meth c T' (locs ++ [⟨a, i⟩]) cells slots → T'.heap = h' → Wr h h' a i (.int (nar .byte x)) → own_Arr Z h' a .byte (vs.set i (.int (nar .byte x))) → own_Go p e below Fin T' (mkF m (pc + 1) Ls rest)) : own_Go p e below Fin T (mkF m pc Ls (.int x :: .int j :: .ref a :: rest)) := by
  have A' := A
  obtain ⟨cl, A1, r1, r2⟩ := A
  obtain ⟨T', h', X', e', W', st⟩ := stB X hx hZ eT A1 (own_inb hj r1 hi) (g := mkF m pc Ls (.int x :: .int j :: .ref a :: rest)) rfl rfl hd
  rw [(own_idx hj).1] at X' W'
  exact own_by (fun t kk => st _ kk) (g T' h' X' e' W' (A'.set W' (fits_nar_byte _)))
theorem own_lastore (X : Stand p l e R s m args below meth c T locs cells slots) (hx : p.tables.exec = Jvm.exec) (hZ : Z.Warmed39 s.vm) (eT : T.heap = h) {a : Addr} {vs : List Value} (A : own_Arr Z h a .long vs) {j : Int32} {x : Int64} (i : Nat) (hj : j.toInt = (i : Int)) (hi : i < vs.length) (hd : decode c.code pc = .ok (.lastore, 1))
    (g : ∀ T' h', Stand p l e R s m args below meth c T' (locs ++ [⟨a, i⟩]) cells slots → T'.heap = h' → Wr h h' a i (.long x) → own_Arr Z h' a .long (vs.set i (.long x)) → own_Go p e below Fin T' (mkF m (pc + 1) Ls rest)) : own_Go p e below Fin T (mkF m pc Ls (.long x :: .int j :: .ref a :: rest)) := by
  have A' := A
  obtain ⟨cl, A1, r1, r2⟩ := A
  obtain ⟨T', h', X', e', W', st⟩ := stJ X hx hZ eT A1 (own_inb hj r1 hi) (g := mkF m pc Ls (.long x :: .int j :: .ref a :: rest)) rfl rfl hd
  rw [(own_idx hj).1] at X' W'
  exact own_by (fun t kk => st _ kk) (g T' h' X' e' W' (A'.set W' rfl))
theorem own_castoreN (X : Stand p l e R s m args below meth c T locs cells slots) (hx : p.tables.exec = Jvm.exec) (hZ : Z.Warmed39 s.vm) (eT : T.heap = h) {a : Addr} {vs : List Value} (A : own_Arr Z h a .char vs) {j : Int32} {x : Int32} (hxn : nar .char x = x) (i : Nat) (hj : j.toInt = (i : Int)) (hi : i < vs.length) (hd : decode c.code pc = .ok (.castore, 1))
    (g : ∀ T' h', Stand p l e R s m args below meth c T' (locs ++ [⟨a, i⟩]) cells slots → T'.heap = h' → Wr h h' a i (.int x) → own_Arr Z h' a .char (vs.set i (.int x)) → own_Go p e below Fin T' (mkF m (pc + 1) Ls rest)) : own_Go p e below Fin T (mkF m pc Ls (.int x :: .int j :: .ref a :: rest)) :=
  own_castore X hx hZ eT A i hj hi hd (by rw [hxn]; exact g)
theorem own_alen (X : Stand p l e R s m args below meth c T locs cells slots) (hx : p.tables.exec = Jvm.exec) (hZ : Z.Warmed39 s.vm) (eT : T.heap = h) {a : Addr} {ty : FieldType} {vs : List Value} (A : own_Arr Z h a ty vs) (hd : decode c.code pc = .ok (.arraylength, 1))
    (g : own_Go p e below Fin T (mkF m (pc + 1) Ls (.int vs.length.toInt32 :: rest))) : own_Go p e below Fin T (mkF m pc Ls (.ref a :: rest)) := by
  obtain ⟨cl, A1, r1, r2⟩ := A
  have hl : cl.slots.size = vs.length := by rw [r1]; simp
  rw [← hl] at g
  exact own_by (fun t kk => X.arraylength hx (by rw [eT]; exact A1.1) (State.isArrayOf_alike hZ.alike A1.2.1) (g := mkF m pc Ls (.ref a :: rest)) rfl rfl hd _ kk) g
theorem own_Arr.nostat {a : Addr} {ty : FieldType} {vs : List Value} (F : own_Arr Z h a ty vs) : ∀ cell : Cell, h[a]? = some cell → cell.vm.isStatics = false := by obtain ⟨c, A, -⟩ := F; exact A.nostat
theorem own_exa_arr {a b : Addr} {C : String} {kk : Nat} {ty : FieldType} {vs : List Value} (F : Exa Z h a C) (wi : (Cond.instantiable C kk).before a0 Z = true) (G : own_Arr Z h b ty vs) : a ≠ b := by
  obtain ⟨c, A, -⟩ := G
  exact ne_arr F wi A
theorem own_Arr.len {a : Addr} {ty : FieldType} {vs : List Value} (F : own_Arr Z h a ty vs) : vs.length < 2 ^ 31 := by obtain ⟨c, -, -, q, -⟩ := F; exact q
theorem own_getD {vs : List Value} {i : Nat} (hi : i < vs.length) (d : Value) : vs.getD i d = vs[i] := by simp [List.getD, hi]
theorem own_Arr.arv {a : Addr} {ty : FieldType} {vs : List Value} (F : own_Arr Z h a ty vs) (dv : Value) : ∃ kk, Arv Z h a kk ty vs.length.toInt32 vs dv := by
  obtain ⟨cl, A, r1, r2, r3⟩ := F
  have e1 : vs.length.toInt32.toInt = vs.length := len_toInt r2
  have e2 := own_idx e1
  have hs : cl.slots.size = vs.length := by rw [r1]; simp
  refine ⟨cl.cls, cl, A, rfl, by rw [hs, e2.1], e2.2, fun i hi => ?_, fun i hi => ?_⟩
  · rw [hs] at hi
    rw [own_getD hi, r1]; simp [hi]
  · rw [hs] at hi
    rw [own_getD hi]; exact r3 _ (List.getElem_mem hi)
theorem own_Arr.of_arv {a : Addr} {kk : ClassId} {ty : FieldType} {z : Int32} {vs : List Value} {dv : Value} (F : Arv Z h a kk ty z vs dv) (hl : z.toNatClampNeg = vs.length) : own_Arr Z h a ty vs := by
  obtain ⟨cl, A, -, q1, q2, H, G⟩ := F
  have hs : cl.slots.size = vs.length := q1.trans hl
  refine ⟨cl, A, ?_, ?_, fun v hv => ?_⟩
  · apply Array.ext'
    apply List.ext_getElem?
    intro i
    by_cases hi : i < vs.length
    · have := H i (by rw [hs]; exact hi)
      rw [own_getD hi] at this
      have q2 : (vs.toArray.toList)[i]? = some vs[i] := by simp [hi]
      rw [q2, Array.getElem?_toList]
      exact this
    · have h1 : cl.slots.toList[i]? = none := by rw [List.getElem?_eq_none_iff]; simp; omega
      have h2 : (vs.toArray.toList)[i]? = none := by rw [List.getElem?_eq_none_iff]; simp; omega
      rw [h1, h2]
  · rw [← hl]
    have := z.toInt_lt
    show z.toInt.toNat < 2 ^ 31
    omega
  · obtain ⟨i, hi, rfl⟩ := List.getElem_of_mem hv
    have := G i (by rw [hs]; exact hi)
    rwa [own_getD hi] at this
end OwnArr
section OwnList
/-- the list us written from the place i on -/
def own_put (vs : List Value) : Nat → List Int32 → List Value
  | _, [] => vs
  | i, u :: us => own_put (vs.set i (.int u)) (i + 1) us
theorem own_put_len : ∀ (us : List Int32) (vs : List Value) (i : Nat), (own_put vs i us).length = vs.length
  | [], vs, i => rfl
  | u :: us, vs, i => by rw [own_put, own_put_len us]; simp
/-- from the place i on the array holds xs -/
def own_At (vs : List Value) : Nat → List Int32 → Prop
  | _, [] => True
  | i, x :: xs => vs[i]? = some (.int x) ∧ own_At vs (i + 1) xs
theorem own_At_app : ∀ (xs ys : List Int32) (vs : List Value) (i : Nat), own_At vs i xs → own_At vs (i + xs.length) ys → own_At vs i (xs ++ ys)
  | [], ys, vs, i, _, h => by simpa using h
  | x :: xs, ys, vs, i, h, h' => by
    have e : i + 1 + xs.length = i + (x :: xs).length := by
      simp; omega
    exact ⟨h.1, own_At_app xs ys vs (i + 1) h.2 (by rw [e]; exact h')⟩
theorem own_put_lo : ∀ (us : List Int32) (vs : List Value) (i j : Nat), j < i → (own_put vs i us)[j]? = vs[j]?
  | [], vs, i, j, _ => rfl
  | u :: us, vs, i, j, h => by rw [own_put, own_put_lo us _ _ _ (by omega), List.getElem?_set_ne (by omega)]
theorem own_put_At : ∀ (us : List Int32) (vs : List Value) (i : Nat), i + us.length ≤ vs.length → own_At (own_put vs i us) i us
  | [], vs, i, _ => trivial
  | u :: us, vs, i, h => by
    have h' : i + 1 + us.length ≤ vs.length := by simp at h; omega
    refine ⟨?_, own_put_At us _ (i + 1) (by simpa using h')⟩
    rw [own_put, own_put_lo us _ _ _ (by omega)]
    have hi : i < vs.length := by simp at h; omega
    simp [hi]
theorem own_inc {x : Int32} {i : Nat} (h : x.toInt = (i : Int)) (hi : i + 1 < 2 ^ 31) : (x + 1).toInt = ((i + 1 : Nat) : Int) := by
  have k : (1 : Int32).toInt = 1 := by decide
  have e : (x + 1).toInt = x.toInt + (1 : Int32).toInt := Jvm.Kit.i32_add (by omega) (by omega)
  rw [e, h, k]; omega
theorem own_nlt {x y : Int32} {i j : Nat} (hx : x.toInt = (i : Int)) (hy : y.toInt = (j : Int)) (q : j ≤ i) : ¬ x < y := by rw [Int32.lt_iff_toInt_lt]; omega
theorem own_ilt {x y : Int32} {i j : Nat} (hx : x.toInt = (i : Int)) (hy : y.toInt = (j : Int)) (q : i < j) : x < y := by rw [Int32.lt_iff_toInt_lt]; omega
end OwnList
section OwnCopy
variable {p : Program} {l : Launch} {e : Env} {R : Room} {s : State} {m : MethodId} {args : Array Value} {below : List Frame} {meth : Method} {c : Code} {T T' : State} {locs : List Loc} {cells slots : Nat} {Fin : Outcome → State → Prop} {Z : State} {a0 : Array Value} {h h' : Heap} {pc n0 : Nat} {Ls : Array Slot} {rest : List Value}
theorem own_us {vs : List Value} {k n : Nat} (d : Value) (hk : k + n ≤ vs.length) : (List.range n).map (fun i => vs.getD (k + i) d) = (vs.drop k).take n := by
  apply List.ext_getElem
  · simp; omega
  · intro i h1 h2
    have hi : i < n := by simpa using h1
    have hi' : k + i < vs.length := by omega
    simp [List.getD, hi']
theorem own_cpA (X : Stand p l e R s m args below meth c T locs cells slots) (hx : p.tables.exec = Jvm.exec) (hZ : Z.Warmed39 s.vm) {own : String} {index : Nat} (hown : s.vm.findClass own = some m.cls)
    (w1 : (Cond.methodLink own index Jvm.Stand.acN).before a0 Z = true) (w2 : (Cond.native Jvm.Stand.acN).before a0 Z = true) (w3 : (Cond.static Jvm.Stand.acN).before a0 Z = true) (w4 : (Cond.initialized "java/lang/System").before a0 Z = true) (eT : T.heap = h)
    {a b : Addr} {ty : FieldType} {vs vd : List Value} (A : own_Arr Z h a ty vs) (B : own_Arr Z h b ty vd) (hty : refKind ty = false) {sp dp nn : Int32} (si di ni : Nat) (hsp : sp.toInt = (si : Int)) (hdp : dp.toInt = (di : Int)) (hnn : nn.toInt = (ni : Int)) (h4 : si + ni ≤ vs.length) (h5 : di + ni ≤ vd.length) (N : Fr n0 locs) (ge : n0 ≤ b)
    (hml : Ls.size = c.maxLocals) (hd : decode c.code pc = .ok (.invokestatic index, 3)) (hf : 1 ≤ R.frames) {W : Nat} (hW : (rest.map fun v => v.category).sum ≤ W) (hlo : W + (nativeFrameWords "java/lang/System" "arraycopy" 5 + 11) ≤ R.locals)
    (g : ∀ T' h' L, Stand p l e R s m args below meth c T' L cells slots → T'.heap = h' → Fr n0 L → Keep h h' [b] → own_Arr Z h' b ty (vd.take di ++ (vs.drop si).take ni ++ vd.drop (di + ni)) → own_Go p e below Fin T' (mkF m (pc + 3) Ls rest)) :
    own_Go p e below Fin T (mkF m pc Ls (.int nn :: .int dp :: .ref b :: .int sp :: .ref a :: rest)) := by
  obtain ⟨k1, A'⟩ := A.arv .null
  obtain ⟨k2, B'⟩ := B.arv .null
  have la : vs.length.toInt32.toNatClampNeg = vs.length := (own_idx (len_toInt A.len)).1
  have lb : vd.length.toInt32.toNatClampNeg = vd.length := (own_idx (len_toInt B.len)).1
  obtain ⟨s1, s2⟩ := own_idx hsp
  obtain ⟨d1, d2⟩ := own_idx hdp
  obtain ⟨n1, n2⟩ := own_idx hnn
  obtain ⟨T', h', L, X', e', N', K', V', st⟩ := cpA X hx hZ hown w1 w2 w3 w4 eT A' B' (Or.inl ⟨rfl, hty⟩) (sp := sp) (dp := dp) (nn := nn) s2 d2 n2 (by rw [s1, n1, la]; exact h4) (by rw [d1, n1, lb]; exact h5) rfl (by rw [d1, n1]; exact h5) N ge (g := mkF m pc Ls (.int nn :: .int dp :: .ref b :: .int sp :: .ref a :: rest)) rfl hml rfl hd hf (W := W) (by show 2 * 0 + _ ≤ _; omega) hlo
  rw [d1, n1, s1, own_us _ h4] at V'
  refine own_by (fun t kk => st _ kk) (g T' h' L X' e' N' K' (own_Arr.of_arv V' ?_))
  rw [lb]; simp; omega
theorem own_daload (X : Stand p l e R s m args below meth c T locs cells slots) (hx : p.tables.exec = Jvm.exec) (hZ : Z.Warmed39 s.vm) (eT : T.heap = h) {a : Addr} {vs : List Value} (A : own_Arr Z h a .double vs) {j : Int32} {v : Value} (i : Nat) (hj : j.toInt = (i : Int)) (hv : vs[i]? = some v) (hd : decode c.code pc = .ok (.daload, 1))
    (g : own_Go p e below Fin T (mkF m (pc + 1) Ls (v :: rest))) : own_Go p e below Fin T (mkF m pc Ls (.int j :: .ref a :: rest)) := by
  obtain ⟨cl, A1, r1, r2⟩ := A
  exact own_by (fun t kk => X.daload hx (j := j) (v := v) (by rw [eT]; exact A1.1) (State.isArrayOf_alike hZ.alike A1.2.1) A1.2.2 (own_inb hj r1 (own_lt_of hv)) (by rw [(own_idx hj).1, r1]; simpa using hv) (g := mkF m pc Ls (.int j :: .ref a :: rest)) rfl rfl hd _ kk) g
theorem own_dastore (X : Stand p l e R s m args below meth c T locs cells slots) (hx : p.tables.exec = Jvm.exec) (hZ : Z.Warmed39 s.vm) (eT : T.heap = h) {a : Addr} {vs : List Value} (A : own_Arr Z h a .double vs) {j : Int32} {x : UInt64} (i : Nat) (hj : j.toInt = (i : Int)) (hi : i < vs.length) (hd : decode c.code pc = .ok (.dastore, 1))
    (g : ∀ T' h', Stand p l e R s m args below meth c T' (locs ++ [⟨a, i⟩]) cells slots → T'.heap = h' → Wr h h' a i (.double x) → own_Arr Z h' a .double (vs.set i (.double x)) → own_Go p e below Fin T' (mkF m (pc + 1) Ls rest)) : own_Go p e below Fin T (mkF m pc Ls (.double x :: .int j :: .ref a :: rest)) := by
  have A' := A
  obtain ⟨cl, A1, r1, r2⟩ := A
  obtain ⟨T', h', X', e', W', st⟩ := stD X hx hZ eT A1 (own_inb hj r1 hi) (g := mkF m pc Ls (.double x :: .int j :: .ref a :: rest)) rfl rfl hd
  rw [(own_idx hj).1] at X' W'
  exact own_by (fun t kk => st _ kk) (g T' h' X' e' W' (A'.set W' rfl))
end OwnCopy
theorem pn_1 : plainName "com/example/wayfold/wayfold/engine/DayTiming$Timeline" = true := by first | (simp [plainName, overriddenIn]; done) | decide +kernel
theorem d1_0 : decode prog_4_method_1_code 0 = .ok (.aload_n 0, 1) := by decide +kernel
theorem d1_1 : decode prog_4_method_1_code 1 = .ok (.invokespecial 1, 3) := by decide +kernel
theorem d1_4 : decode prog_4_method_1_code 4 = .ok (.aload_n 0, 1) := by decide +kernel
theorem d1_5 : decode prog_4_method_1_code 5 = .ok (.iload_n 1, 1) := by decide +kernel
theorem d1_6 : decode prog_4_method_1_code 6 = .ok (.newarray .int, 2) := by decide +kernel
theorem d1_8 : decode prog_4_method_1_code 8 = .ok (.putfield 7, 3) := by decide +kernel
theorem d1_11 : decode prog_4_method_1_code 11 = .ok (.aload_n 0, 1) := by decide +kernel
theorem d1_12 : decode prog_4_method_1_code 12 = .ok (.iload_n 1, 1) := by decide +kernel
theorem d1_13 : decode prog_4_method_1_code 13 = .ok (.iconst 1, 1) := by decide +kernel
theorem d1_14 : decode prog_4_method_1_code 14 = .ok (.iadd, 1) := by decide +kernel
theorem d1_15 : decode prog_4_method_1_code 15 = .ok (.newarray .double, 2) := by decide +kernel
theorem d1_17 : decode prog_4_method_1_code 17 = .ok (.putfield 13, 3) := by decide +kernel
theorem d1_20 : decode prog_4_method_1_code 20 = .ok (.aload_n 0, 1) := by decide +kernel
theorem d1_21 : decode prog_4_method_1_code 21 = .ok (.iload_n 1, 1) := by decide +kernel
theorem d1_22 : decode prog_4_method_1_code 22 = .ok (.iconst 1, 1) := by decide +kernel
theorem d1_23 : decode prog_4_method_1_code 23 = .ok (.iadd, 1) := by decide +kernel
theorem d1_24 : decode prog_4_method_1_code 24 = .ok (.newarray .double, 2) := by decide +kernel
theorem d1_26 : decode prog_4_method_1_code 26 = .ok (.putfield 17, 3) := by decide +kernel
theorem d1_29 : decode prog_4_method_1_code 29 = .ok (.aload_n 0, 1) := by decide +kernel
theorem d1_30 : decode prog_4_method_1_code 30 = .ok (.iload_n 1, 1) := by decide +kernel
theorem d1_31 : decode prog_4_method_1_code 31 = .ok (.iconst 1, 1) := by decide +kernel
theorem d1_32 : decode prog_4_method_1_code 32 = .ok (.iadd, 1) := by decide +kernel
theorem d1_33 : decode prog_4_method_1_code 33 = .ok (.newarray .double, 2) := by decide +kernel
theorem d1_35 : decode prog_4_method_1_code 35 = .ok (.putfield 20, 3) := by decide +kernel
theorem d1_38 : decode prog_4_method_1_code 38 = .ok (.aload_n 0, 1) := by decide +kernel
theorem d1_39 : decode prog_4_method_1_code 39 = .ok (.iload_n 1, 1) := by decide +kernel
theorem d1_40 : decode prog_4_method_1_code 40 = .ok (.iconst 1, 1) := by decide +kernel
theorem d1_41 : decode prog_4_method_1_code 41 = .ok (.iadd, 1) := by decide +kernel
theorem d1_42 : decode prog_4_method_1_code 42 = .ok (.newarray .double, 2) := by decide +kernel
theorem d1_44 : decode prog_4_method_1_code 44 = .ok (.putfield 23, 3) := by decide +kernel
theorem d1_47 : decode prog_4_method_1_code 47 = .ok (.aload_n 0, 1) := by decide +kernel
theorem d1_48 : decode prog_4_method_1_code 48 = .ok (.iload_n 1, 1) := by decide +kernel
theorem d1_49 : decode prog_4_method_1_code 49 = .ok (.iconst 1, 1) := by decide +kernel
theorem d1_50 : decode prog_4_method_1_code 50 = .ok (.iadd, 1) := by decide +kernel
theorem d1_51 : decode prog_4_method_1_code 51 = .ok (.newarray .double, 2) := by decide +kernel
theorem d1_53 : decode prog_4_method_1_code 53 = .ok (.putfield 26, 3) := by decide +kernel
theorem d1_56 : decode prog_4_method_1_code 56 = .ok (.aload_n 0, 1) := by decide +kernel
theorem d1_57 : decode prog_4_method_1_code 57 = .ok (.iload_n 1, 1) := by decide +kernel
theorem d1_58 : decode prog_4_method_1_code 58 = .ok (.iconst 1, 1) := by decide +kernel
theorem d1_59 : decode prog_4_method_1_code 59 = .ok (.iadd, 1) := by decide +kernel
theorem d1_60 : decode prog_4_method_1_code 60 = .ok (.newarray .double, 2) := by decide +kernel
theorem d1_62 : decode prog_4_method_1_code 62 = .ok (.putfield 29, 3) := by decide +kernel
theorem d1_65 : decode prog_4_method_1_code 65 = .ok (.aload_n 0, 1) := by decide +kernel
theorem d1_66 : decode prog_4_method_1_code 66 = .ok (.iload_n 1, 1) := by decide +kernel
theorem d1_67 : decode prog_4_method_1_code 67 = .ok (.iconst 1, 1) := by decide +kernel
theorem d1_68 : decode prog_4_method_1_code 68 = .ok (.iadd, 1) := by decide +kernel
theorem d1_69 : decode prog_4_method_1_code 69 = .ok (.newarray .double, 2) := by decide +kernel
theorem d1_71 : decode prog_4_method_1_code 71 = .ok (.putfield 32, 3) := by decide +kernel
theorem d1_74 : decode prog_4_method_1_code 74 = .ok (.aload_n 0, 1) := by decide +kernel
theorem d1_75 : decode prog_4_method_1_code 75 = .ok (.iload_n 1, 1) := by decide +kernel
theorem d1_76 : decode prog_4_method_1_code 76 = .ok (.iconst 1, 1) := by decide +kernel
theorem d1_77 : decode prog_4_method_1_code 77 = .ok (.iadd, 1) := by decide +kernel
theorem d1_78 : decode prog_4_method_1_code 78 = .ok (.newarray .double, 2) := by decide +kernel
theorem d1_80 : decode prog_4_method_1_code 80 = .ok (.putfield 35, 3) := by decide +kernel
theorem d1_83 : decode prog_4_method_1_code 83 = .ok (.return_, 1) := by decide +kernel
theorem pn_0 : plainName "com/example/wayfold/wayfold/engine/TimelineCopyPinLaw" = true := by first | (simp [plainName, overriddenIn]; done) | decide +kernel
theorem d4_0 : decode method_2_code 0 = .ok (.aload_n 0, 1) := by decide +kernel
theorem d4_1 : decode method_2_code 1 = .ok (.iconst 0, 1) := by decide +kernel
theorem d4_2 : decode method_2_code 2 = .ok (.iload_n 1, 1) := by decide +kernel
theorem d4_3 : decode method_2_code 3 = .ok (.i2d, 1) := by decide +kernel
theorem d4_4 : decode method_2_code 4 = .ok (.dastore, 1) := by decide +kernel
theorem d4_5 : decode method_2_code 5 = .ok (.aload_n 0, 1) := by decide +kernel
theorem d4_6 : decode method_2_code 6 = .ok (.iconst 1, 1) := by decide +kernel
theorem d4_7 : decode method_2_code 7 = .ok (.iload_n 1, 1) := by decide +kernel
theorem d4_8 : decode method_2_code 8 = .ok (.iconst 1, 1) := by decide +kernel
theorem d4_9 : decode method_2_code 9 = .ok (.iadd, 1) := by decide +kernel
theorem d4_10 : decode method_2_code 10 = .ok (.i2d, 1) := by decide +kernel
theorem d4_11 : decode method_2_code 11 = .ok (.dastore, 1) := by decide +kernel
theorem d4_12 : decode method_2_code 12 = .ok (.aload_n 0, 1) := by decide +kernel
theorem d4_13 : decode method_2_code 13 = .ok (.iconst 2, 1) := by decide +kernel
theorem d4_14 : decode method_2_code 14 = .ok (.iload_n 1, 1) := by decide +kernel
theorem d4_15 : decode method_2_code 15 = .ok (.iconst 2, 1) := by decide +kernel
theorem d4_16 : decode method_2_code 16 = .ok (.iadd, 1) := by decide +kernel
theorem d4_17 : decode method_2_code 17 = .ok (.i2d, 1) := by decide +kernel
theorem d4_18 : decode method_2_code 18 = .ok (.dastore, 1) := by decide +kernel
theorem d4_19 : decode method_2_code 19 = .ok (.return_, 1) := by decide +kernel
theorem d3_0 : decode method_3_code 0 = .ok (.aload_n 0, 1) := by decide +kernel
theorem d3_1 : decode method_3_code 1 = .ok (.getfield 7, 3) := by decide +kernel
theorem d3_4 : decode method_3_code 4 = .ok (.iload_n 1, 1) := by decide +kernel
theorem d3_5 : decode method_3_code 5 = .ok (.invokestatic 13, 3) := by decide +kernel
theorem pd_3 : parseMethodDescriptor "([DI)V" = some ⟨[(.array .double), .int], none⟩ := by decide +kernel
theorem d3_8 : decode method_3_code 8 = .ok (.aload_n 0, 1) := by decide +kernel
theorem d3_9 : decode method_3_code 9 = .ok (.getfield 19, 3) := by decide +kernel
theorem d3_12 : decode method_3_code 12 = .ok (.iload_n 1, 1) := by decide +kernel
theorem d3_13 : decode method_3_code 13 = .ok (.iload_n 2, 1) := by decide +kernel
theorem d3_14 : decode method_3_code 14 = .ok (.iadd, 1) := by decide +kernel
theorem d3_15 : decode method_3_code 15 = .ok (.invokestatic 13, 3) := by decide +kernel
theorem d3_18 : decode method_3_code 18 = .ok (.aload_n 0, 1) := by decide +kernel
theorem d3_19 : decode method_3_code 19 = .ok (.getfield 22, 3) := by decide +kernel
theorem d3_22 : decode method_3_code 22 = .ok (.iload_n 1, 1) := by decide +kernel
theorem d3_23 : decode method_3_code 23 = .ok (.iconst 2, 1) := by decide +kernel
theorem d3_24 : decode method_3_code 24 = .ok (.iload_n 2, 1) := by decide +kernel
theorem d3_25 : decode method_3_code 25 = .ok (.imul, 1) := by decide +kernel
theorem d3_26 : decode method_3_code 26 = .ok (.iadd, 1) := by decide +kernel
theorem d3_27 : decode method_3_code 27 = .ok (.invokestatic 13, 3) := by decide +kernel
theorem d3_30 : decode method_3_code 30 = .ok (.aload_n 0, 1) := by decide +kernel
theorem d3_31 : decode method_3_code 31 = .ok (.getfield 25, 3) := by decide +kernel
theorem d3_34 : decode method_3_code 34 = .ok (.iload_n 1, 1) := by decide +kernel
theorem d3_35 : decode method_3_code 35 = .ok (.iconst 3, 1) := by decide +kernel
theorem d3_36 : decode method_3_code 36 = .ok (.iload_n 2, 1) := by decide +kernel
theorem d3_37 : decode method_3_code 37 = .ok (.imul, 1) := by decide +kernel
theorem d3_38 : decode method_3_code 38 = .ok (.iadd, 1) := by decide +kernel
theorem d3_39 : decode method_3_code 39 = .ok (.invokestatic 13, 3) := by decide +kernel
theorem d3_42 : decode method_3_code 42 = .ok (.aload_n 0, 1) := by decide +kernel
theorem d3_43 : decode method_3_code 43 = .ok (.getfield 28, 3) := by decide +kernel
theorem d3_46 : decode method_3_code 46 = .ok (.iload_n 1, 1) := by decide +kernel
theorem d3_47 : decode method_3_code 47 = .ok (.iconst 4, 1) := by decide +kernel
theorem d3_48 : decode method_3_code 48 = .ok (.iload_n 2, 1) := by decide +kernel
theorem d3_49 : decode method_3_code 49 = .ok (.imul, 1) := by decide +kernel
theorem d3_50 : decode method_3_code 50 = .ok (.iadd, 1) := by decide +kernel
theorem d3_51 : decode method_3_code 51 = .ok (.invokestatic 13, 3) := by decide +kernel
theorem d3_54 : decode method_3_code 54 = .ok (.aload_n 0, 1) := by decide +kernel
theorem d3_55 : decode method_3_code 55 = .ok (.getfield 31, 3) := by decide +kernel
theorem d3_58 : decode method_3_code 58 = .ok (.iload_n 1, 1) := by decide +kernel
theorem d3_59 : decode method_3_code 59 = .ok (.iconst 5, 1) := by decide +kernel
theorem d3_60 : decode method_3_code 60 = .ok (.iload_n 2, 1) := by decide +kernel
theorem d3_61 : decode method_3_code 61 = .ok (.imul, 1) := by decide +kernel
theorem d3_62 : decode method_3_code 62 = .ok (.iadd, 1) := by decide +kernel
theorem d3_63 : decode method_3_code 63 = .ok (.invokestatic 13, 3) := by decide +kernel
theorem d3_66 : decode method_3_code 66 = .ok (.aload_n 0, 1) := by decide +kernel
theorem d3_67 : decode method_3_code 67 = .ok (.getfield 34, 3) := by decide +kernel
theorem d3_70 : decode method_3_code 70 = .ok (.iload_n 1, 1) := by decide +kernel
theorem d3_71 : decode method_3_code 71 = .ok (.bipush 6, 2) := by decide +kernel
theorem d3_73 : decode method_3_code 73 = .ok (.iload_n 2, 1) := by decide +kernel
theorem d3_74 : decode method_3_code 74 = .ok (.imul, 1) := by decide +kernel
theorem d3_75 : decode method_3_code 75 = .ok (.iadd, 1) := by decide +kernel
theorem d3_76 : decode method_3_code 76 = .ok (.invokestatic 13, 3) := by decide +kernel
theorem d3_79 : decode method_3_code 79 = .ok (.aload_n 0, 1) := by decide +kernel
theorem d3_80 : decode method_3_code 80 = .ok (.getfield 37, 3) := by decide +kernel
theorem d3_83 : decode method_3_code 83 = .ok (.iload_n 1, 1) := by decide +kernel
theorem d3_84 : decode method_3_code 84 = .ok (.bipush 7, 2) := by decide +kernel
theorem d3_86 : decode method_3_code 86 = .ok (.iload_n 2, 1) := by decide +kernel
theorem d3_87 : decode method_3_code 87 = .ok (.imul, 1) := by decide +kernel
theorem d3_88 : decode method_3_code 88 = .ok (.iadd, 1) := by decide +kernel
theorem d3_89 : decode method_3_code 89 = .ok (.invokestatic 13, 3) := by decide +kernel
theorem d3_92 : decode method_3_code 92 = .ok (.return_, 1) := by decide +kernel
theorem d5_0 : decode prog_4_method_2_code 0 = .ok (.aload_n 0, 1) := by decide +kernel
theorem d5_1 : decode prog_4_method_2_code 1 = .ok (.aload_n 1, 1) := by decide +kernel
theorem d5_2 : decode prog_4_method_2_code 2 = .ok (.getfield 38, 3) := by decide +kernel
theorem d5_5 : decode prog_4_method_2_code 5 = .ok (.putfield 38, 3) := by decide +kernel
theorem d5_8 : decode prog_4_method_2_code 8 = .ok (.aload_n 1, 1) := by decide +kernel
theorem d5_9 : decode prog_4_method_2_code 9 = .ok (.getfield 7, 3) := by decide +kernel
theorem d5_12 : decode prog_4_method_2_code 12 = .ok (.iconst 0, 1) := by decide +kernel
theorem d5_13 : decode prog_4_method_2_code 13 = .ok (.aload_n 0, 1) := by decide +kernel
theorem d5_14 : decode prog_4_method_2_code 14 = .ok (.getfield 7, 3) := by decide +kernel
theorem d5_17 : decode prog_4_method_2_code 17 = .ok (.iconst 0, 1) := by decide +kernel
theorem d5_18 : decode prog_4_method_2_code 18 = .ok (.aload_n 0, 1) := by decide +kernel
theorem d5_19 : decode prog_4_method_2_code 19 = .ok (.getfield 38, 3) := by decide +kernel
theorem d5_22 : decode prog_4_method_2_code 22 = .ok (.invokestatic 42, 3) := by decide +kernel
theorem d5_25 : decode prog_4_method_2_code 25 = .ok (.aload_n 1, 1) := by decide +kernel
theorem d5_26 : decode prog_4_method_2_code 26 = .ok (.getfield 13, 3) := by decide +kernel
theorem d5_29 : decode prog_4_method_2_code 29 = .ok (.iconst 0, 1) := by decide +kernel
theorem d5_30 : decode prog_4_method_2_code 30 = .ok (.aload_n 0, 1) := by decide +kernel
theorem d5_31 : decode prog_4_method_2_code 31 = .ok (.getfield 13, 3) := by decide +kernel
theorem d5_34 : decode prog_4_method_2_code 34 = .ok (.iconst 0, 1) := by decide +kernel
theorem d5_35 : decode prog_4_method_2_code 35 = .ok (.aload_n 0, 1) := by decide +kernel
theorem d5_36 : decode prog_4_method_2_code 36 = .ok (.getfield 38, 3) := by decide +kernel
theorem d5_39 : decode prog_4_method_2_code 39 = .ok (.iconst 1, 1) := by decide +kernel
theorem d5_40 : decode prog_4_method_2_code 40 = .ok (.iadd, 1) := by decide +kernel
theorem d5_41 : decode prog_4_method_2_code 41 = .ok (.invokestatic 42, 3) := by decide +kernel
theorem d5_44 : decode prog_4_method_2_code 44 = .ok (.aload_n 1, 1) := by decide +kernel
theorem d5_45 : decode prog_4_method_2_code 45 = .ok (.getfield 17, 3) := by decide +kernel
theorem d5_48 : decode prog_4_method_2_code 48 = .ok (.iconst 0, 1) := by decide +kernel
theorem d5_49 : decode prog_4_method_2_code 49 = .ok (.aload_n 0, 1) := by decide +kernel
theorem d5_50 : decode prog_4_method_2_code 50 = .ok (.getfield 17, 3) := by decide +kernel
theorem d5_53 : decode prog_4_method_2_code 53 = .ok (.iconst 0, 1) := by decide +kernel
theorem d5_54 : decode prog_4_method_2_code 54 = .ok (.aload_n 0, 1) := by decide +kernel
theorem d5_55 : decode prog_4_method_2_code 55 = .ok (.getfield 38, 3) := by decide +kernel
theorem d5_58 : decode prog_4_method_2_code 58 = .ok (.iconst 1, 1) := by decide +kernel
theorem d5_59 : decode prog_4_method_2_code 59 = .ok (.iadd, 1) := by decide +kernel
theorem d5_60 : decode prog_4_method_2_code 60 = .ok (.invokestatic 42, 3) := by decide +kernel
theorem d5_63 : decode prog_4_method_2_code 63 = .ok (.aload_n 1, 1) := by decide +kernel
theorem d5_64 : decode prog_4_method_2_code 64 = .ok (.getfield 20, 3) := by decide +kernel
theorem d5_67 : decode prog_4_method_2_code 67 = .ok (.iconst 0, 1) := by decide +kernel
theorem d5_68 : decode prog_4_method_2_code 68 = .ok (.aload_n 0, 1) := by decide +kernel
theorem d5_69 : decode prog_4_method_2_code 69 = .ok (.getfield 20, 3) := by decide +kernel
theorem d5_72 : decode prog_4_method_2_code 72 = .ok (.iconst 0, 1) := by decide +kernel
theorem d5_73 : decode prog_4_method_2_code 73 = .ok (.aload_n 0, 1) := by decide +kernel
theorem d5_74 : decode prog_4_method_2_code 74 = .ok (.getfield 38, 3) := by decide +kernel
theorem d5_77 : decode prog_4_method_2_code 77 = .ok (.iconst 1, 1) := by decide +kernel
theorem d5_78 : decode prog_4_method_2_code 78 = .ok (.iadd, 1) := by decide +kernel
theorem d5_79 : decode prog_4_method_2_code 79 = .ok (.invokestatic 42, 3) := by decide +kernel
theorem d5_82 : decode prog_4_method_2_code 82 = .ok (.aload_n 1, 1) := by decide +kernel
theorem d5_83 : decode prog_4_method_2_code 83 = .ok (.getfield 23, 3) := by decide +kernel
theorem d5_86 : decode prog_4_method_2_code 86 = .ok (.iconst 0, 1) := by decide +kernel
theorem d5_87 : decode prog_4_method_2_code 87 = .ok (.aload_n 0, 1) := by decide +kernel
theorem d5_88 : decode prog_4_method_2_code 88 = .ok (.getfield 23, 3) := by decide +kernel
theorem d5_91 : decode prog_4_method_2_code 91 = .ok (.iconst 0, 1) := by decide +kernel
theorem d5_92 : decode prog_4_method_2_code 92 = .ok (.aload_n 0, 1) := by decide +kernel
theorem d5_93 : decode prog_4_method_2_code 93 = .ok (.getfield 38, 3) := by decide +kernel
theorem d5_96 : decode prog_4_method_2_code 96 = .ok (.iconst 1, 1) := by decide +kernel
theorem d5_97 : decode prog_4_method_2_code 97 = .ok (.iadd, 1) := by decide +kernel
theorem d5_98 : decode prog_4_method_2_code 98 = .ok (.invokestatic 42, 3) := by decide +kernel
theorem d5_101 : decode prog_4_method_2_code 101 = .ok (.aload_n 1, 1) := by decide +kernel
theorem d5_102 : decode prog_4_method_2_code 102 = .ok (.getfield 26, 3) := by decide +kernel
theorem d5_105 : decode prog_4_method_2_code 105 = .ok (.iconst 0, 1) := by decide +kernel
theorem d5_106 : decode prog_4_method_2_code 106 = .ok (.aload_n 0, 1) := by decide +kernel
theorem d5_107 : decode prog_4_method_2_code 107 = .ok (.getfield 26, 3) := by decide +kernel
theorem d5_110 : decode prog_4_method_2_code 110 = .ok (.iconst 0, 1) := by decide +kernel
theorem d5_111 : decode prog_4_method_2_code 111 = .ok (.aload_n 0, 1) := by decide +kernel
theorem d5_112 : decode prog_4_method_2_code 112 = .ok (.getfield 38, 3) := by decide +kernel
theorem d5_115 : decode prog_4_method_2_code 115 = .ok (.iconst 1, 1) := by decide +kernel
theorem d5_116 : decode prog_4_method_2_code 116 = .ok (.iadd, 1) := by decide +kernel
theorem d5_117 : decode prog_4_method_2_code 117 = .ok (.invokestatic 42, 3) := by decide +kernel
theorem d5_120 : decode prog_4_method_2_code 120 = .ok (.aload_n 1, 1) := by decide +kernel
theorem d5_121 : decode prog_4_method_2_code 121 = .ok (.getfield 29, 3) := by decide +kernel
theorem d5_124 : decode prog_4_method_2_code 124 = .ok (.iconst 0, 1) := by decide +kernel
theorem d5_125 : decode prog_4_method_2_code 125 = .ok (.aload_n 0, 1) := by decide +kernel
theorem d5_126 : decode prog_4_method_2_code 126 = .ok (.getfield 29, 3) := by decide +kernel
theorem d5_129 : decode prog_4_method_2_code 129 = .ok (.iconst 0, 1) := by decide +kernel
theorem d5_130 : decode prog_4_method_2_code 130 = .ok (.aload_n 0, 1) := by decide +kernel
theorem d5_131 : decode prog_4_method_2_code 131 = .ok (.getfield 38, 3) := by decide +kernel
theorem d5_134 : decode prog_4_method_2_code 134 = .ok (.iconst 1, 1) := by decide +kernel
theorem d5_135 : decode prog_4_method_2_code 135 = .ok (.iadd, 1) := by decide +kernel
theorem d5_136 : decode prog_4_method_2_code 136 = .ok (.invokestatic 42, 3) := by decide +kernel
theorem d5_139 : decode prog_4_method_2_code 139 = .ok (.aload_n 1, 1) := by decide +kernel
theorem d5_140 : decode prog_4_method_2_code 140 = .ok (.getfield 32, 3) := by decide +kernel
theorem d5_143 : decode prog_4_method_2_code 143 = .ok (.iconst 0, 1) := by decide +kernel
theorem d5_144 : decode prog_4_method_2_code 144 = .ok (.aload_n 0, 1) := by decide +kernel
theorem d5_145 : decode prog_4_method_2_code 145 = .ok (.getfield 32, 3) := by decide +kernel
theorem d5_148 : decode prog_4_method_2_code 148 = .ok (.iconst 0, 1) := by decide +kernel
theorem d5_149 : decode prog_4_method_2_code 149 = .ok (.aload_n 0, 1) := by decide +kernel
theorem d5_150 : decode prog_4_method_2_code 150 = .ok (.getfield 38, 3) := by decide +kernel
theorem d5_153 : decode prog_4_method_2_code 153 = .ok (.iconst 1, 1) := by decide +kernel
theorem d5_154 : decode prog_4_method_2_code 154 = .ok (.iadd, 1) := by decide +kernel
theorem d5_155 : decode prog_4_method_2_code 155 = .ok (.invokestatic 42, 3) := by decide +kernel
theorem d5_158 : decode prog_4_method_2_code 158 = .ok (.aload_n 1, 1) := by decide +kernel
theorem d5_159 : decode prog_4_method_2_code 159 = .ok (.getfield 35, 3) := by decide +kernel
theorem d5_162 : decode prog_4_method_2_code 162 = .ok (.iconst 0, 1) := by decide +kernel
theorem d5_163 : decode prog_4_method_2_code 163 = .ok (.aload_n 0, 1) := by decide +kernel
theorem d5_164 : decode prog_4_method_2_code 164 = .ok (.getfield 35, 3) := by decide +kernel
theorem d5_167 : decode prog_4_method_2_code 167 = .ok (.iconst 0, 1) := by decide +kernel
theorem d5_168 : decode prog_4_method_2_code 168 = .ok (.aload_n 0, 1) := by decide +kernel
theorem d5_169 : decode prog_4_method_2_code 169 = .ok (.getfield 38, 3) := by decide +kernel
theorem d5_172 : decode prog_4_method_2_code 172 = .ok (.iconst 1, 1) := by decide +kernel
theorem d5_173 : decode prog_4_method_2_code 173 = .ok (.iadd, 1) := by decide +kernel
theorem d5_174 : decode prog_4_method_2_code 174 = .ok (.invokestatic 42, 3) := by decide +kernel
theorem d5_177 : decode prog_4_method_2_code 177 = .ok (.return_, 1) := by decide +kernel
theorem d7_0 : decode method_4_code 0 = .ok (.aload_n 0, 1) := by decide +kernel
theorem d7_1 : decode method_4_code 1 = .ok (.iconst 0, 1) := by decide +kernel
theorem d7_2 : decode method_4_code 2 = .ok (.daload, 1) := by decide +kernel
theorem d7_3 : decode method_4_code 3 = .ok (.iload_n 1, 1) := by decide +kernel
theorem d7_4 : decode method_4_code 4 = .ok (.i2d, 1) := by decide +kernel
theorem d7_5 : decode method_4_code 5 = .ok (.dcmp .l, 1) := by decide +kernel
theorem d7_6 : decode method_4_code 6 = .ok (.ifCond .eq 5, 3) := by decide +kernel
theorem d7_11 : decode method_4_code 11 = .ok (.iload_n 3, 1) := by decide +kernel
theorem d7_12 : decode method_4_code 12 = .ok (.iconst 1, 1) := by decide +kernel
theorem d7_13 : decode method_4_code 13 = .ok (.if_icmp .lt 17, 3) := by decide +kernel
theorem d7_30 : decode method_4_code 30 = .ok (.aload_n 0, 1) := by decide +kernel
theorem d7_31 : decode method_4_code 31 = .ok (.iconst 1, 1) := by decide +kernel
theorem d7_32 : decode method_4_code 32 = .ok (.daload, 1) := by decide +kernel
theorem d7_33 : decode method_4_code 33 = .ok (.iload_n 2, 1) := by decide +kernel
theorem d7_34 : decode method_4_code 34 = .ok (.iconst 1, 1) := by decide +kernel
theorem d7_35 : decode method_4_code 35 = .ok (.iadd, 1) := by decide +kernel
theorem d7_36 : decode method_4_code 36 = .ok (.i2d, 1) := by decide +kernel
theorem d7_37 : decode method_4_code 37 = .ok (.dcmp .l, 1) := by decide +kernel
theorem d7_38 : decode method_4_code 38 = .ok (.ifCond .eq 5, 3) := by decide +kernel
theorem d7_43 : decode method_4_code 43 = .ok (.iload_n 3, 1) := by decide +kernel
theorem d7_44 : decode method_4_code 44 = .ok (.iconst 2, 1) := by decide +kernel
theorem d7_45 : decode method_4_code 45 = .ok (.if_icmp .lt 17, 3) := by decide +kernel
theorem d7_62 : decode method_4_code 62 = .ok (.aload_n 0, 1) := by decide +kernel
theorem d7_63 : decode method_4_code 63 = .ok (.iconst 2, 1) := by decide +kernel
theorem d7_64 : decode method_4_code 64 = .ok (.daload, 1) := by decide +kernel
theorem d7_65 : decode method_4_code 65 = .ok (.iload_n 2, 1) := by decide +kernel
theorem d7_66 : decode method_4_code 66 = .ok (.iconst 2, 1) := by decide +kernel
theorem d7_67 : decode method_4_code 67 = .ok (.iadd, 1) := by decide +kernel
theorem d7_68 : decode method_4_code 68 = .ok (.i2d, 1) := by decide +kernel
theorem d7_69 : decode method_4_code 69 = .ok (.dcmp .l, 1) := by decide +kernel
theorem d7_70 : decode method_4_code 70 = .ok (.ifCond .eq 5, 3) := by decide +kernel
theorem d7_75 : decode method_4_code 75 = .ok (.iconst 1, 1) := by decide +kernel
theorem d7_76 : decode method_4_code 76 = .ok (.ireturn, 1) := by decide +kernel
theorem d7_48 : decode method_4_code 48 = .ok (.aload_n 0, 1) := by decide +kernel
theorem d7_49 : decode method_4_code 49 = .ok (.iconst 2, 1) := by decide +kernel
theorem d7_50 : decode method_4_code 50 = .ok (.daload, 1) := by decide +kernel
theorem d7_51 : decode method_4_code 51 = .ok (.iload_n 1, 1) := by decide +kernel
theorem d7_52 : decode method_4_code 52 = .ok (.iconst 2, 1) := by decide +kernel
theorem d7_53 : decode method_4_code 53 = .ok (.iadd, 1) := by decide +kernel
theorem d7_54 : decode method_4_code 54 = .ok (.i2d, 1) := by decide +kernel
theorem d7_55 : decode method_4_code 55 = .ok (.dcmp .l, 1) := by decide +kernel
theorem d7_56 : decode method_4_code 56 = .ok (.ifCond .eq 19, 3) := by decide +kernel
theorem d7_16 : decode method_4_code 16 = .ok (.aload_n 0, 1) := by decide +kernel
theorem d7_17 : decode method_4_code 17 = .ok (.iconst 1, 1) := by decide +kernel
theorem d7_18 : decode method_4_code 18 = .ok (.daload, 1) := by decide +kernel
theorem d7_19 : decode method_4_code 19 = .ok (.iload_n 1, 1) := by decide +kernel
theorem d7_20 : decode method_4_code 20 = .ok (.iconst 1, 1) := by decide +kernel
theorem d7_21 : decode method_4_code 21 = .ok (.iadd, 1) := by decide +kernel
theorem d7_22 : decode method_4_code 22 = .ok (.i2d, 1) := by decide +kernel
theorem d7_23 : decode method_4_code 23 = .ok (.dcmp .l, 1) := by decide +kernel
theorem d7_24 : decode method_4_code 24 = .ok (.ifCond .eq 19, 3) := by decide +kernel
theorem d6_0 : decode method_5_code 0 = .ok (.aload_n 0, 1) := by decide +kernel
theorem d6_1 : decode method_5_code 1 = .ok (.getfield 7, 3) := by decide +kernel
theorem d6_4 : decode method_5_code 4 = .ok (.iload_n 1, 1) := by decide +kernel
theorem d6_5 : decode method_5_code 5 = .ok (.iload_n 2, 1) := by decide +kernel
theorem d6_6 : decode method_5_code 6 = .ok (.iload_n 3, 1) := by decide +kernel
theorem d6_7 : decode method_5_code 7 = .ok (.invokestatic 40, 3) := by decide +kernel
theorem pd_7 : parseMethodDescriptor "([DIII)Z" = some ⟨[(.array .double), .int, .int, .int], some .boolean⟩ := by decide +kernel
theorem d6_10 : decode method_5_code 10 = .ok (.ifCond .eq 138, 3) := by decide +kernel
theorem d6_13 : decode method_5_code 13 = .ok (.aload_n 0, 1) := by decide +kernel
theorem d6_14 : decode method_5_code 14 = .ok (.getfield 19, 3) := by decide +kernel
theorem d6_17 : decode method_5_code 17 = .ok (.iload_n 1, 1) := by decide +kernel
theorem d6_18 : decode method_5_code 18 = .ok (.iconst 3, 1) := by decide +kernel
theorem d6_19 : decode method_5_code 19 = .ok (.iadd, 1) := by decide +kernel
theorem d6_20 : decode method_5_code 20 = .ok (.iload_n 2, 1) := by decide +kernel
theorem d6_21 : decode method_5_code 21 = .ok (.iconst 3, 1) := by decide +kernel
theorem d6_22 : decode method_5_code 22 = .ok (.isub, 1) := by decide +kernel
theorem d6_23 : decode method_5_code 23 = .ok (.iload_n 3, 1) := by decide +kernel
theorem d6_24 : decode method_5_code 24 = .ok (.invokestatic 40, 3) := by decide +kernel
theorem d6_27 : decode method_5_code 27 = .ok (.ifCond .eq 121, 3) := by decide +kernel
theorem d6_30 : decode method_5_code 30 = .ok (.aload_n 0, 1) := by decide +kernel
theorem d6_31 : decode method_5_code 31 = .ok (.getfield 22, 3) := by decide +kernel
theorem d6_34 : decode method_5_code 34 = .ok (.iload_n 1, 1) := by decide +kernel
theorem d6_35 : decode method_5_code 35 = .ok (.bipush 6, 2) := by decide +kernel
theorem d6_37 : decode method_5_code 37 = .ok (.iadd, 1) := by decide +kernel
theorem d6_38 : decode method_5_code 38 = .ok (.iload_n 2, 1) := by decide +kernel
theorem d6_39 : decode method_5_code 39 = .ok (.bipush 6, 2) := by decide +kernel
theorem d6_41 : decode method_5_code 41 = .ok (.isub, 1) := by decide +kernel
theorem d6_42 : decode method_5_code 42 = .ok (.iload_n 3, 1) := by decide +kernel
theorem d6_43 : decode method_5_code 43 = .ok (.invokestatic 40, 3) := by decide +kernel
theorem d6_46 : decode method_5_code 46 = .ok (.ifCond .eq 102, 3) := by decide +kernel
theorem d6_49 : decode method_5_code 49 = .ok (.aload_n 0, 1) := by decide +kernel
theorem d6_50 : decode method_5_code 50 = .ok (.getfield 25, 3) := by decide +kernel
theorem d6_53 : decode method_5_code 53 = .ok (.iload_n 1, 1) := by decide +kernel
theorem d6_54 : decode method_5_code 54 = .ok (.bipush 9, 2) := by decide +kernel
theorem d6_56 : decode method_5_code 56 = .ok (.iadd, 1) := by decide +kernel
theorem d6_57 : decode method_5_code 57 = .ok (.iload_n 2, 1) := by decide +kernel
theorem d6_58 : decode method_5_code 58 = .ok (.bipush 9, 2) := by decide +kernel
theorem d6_60 : decode method_5_code 60 = .ok (.isub, 1) := by decide +kernel
theorem d6_61 : decode method_5_code 61 = .ok (.iload_n 3, 1) := by decide +kernel
theorem d6_62 : decode method_5_code 62 = .ok (.invokestatic 40, 3) := by decide +kernel
theorem d6_65 : decode method_5_code 65 = .ok (.ifCond .eq 83, 3) := by decide +kernel
theorem d6_68 : decode method_5_code 68 = .ok (.aload_n 0, 1) := by decide +kernel
theorem d6_69 : decode method_5_code 69 = .ok (.getfield 28, 3) := by decide +kernel
theorem d6_72 : decode method_5_code 72 = .ok (.iload_n 1, 1) := by decide +kernel
theorem d6_73 : decode method_5_code 73 = .ok (.bipush 12, 2) := by decide +kernel
theorem d6_75 : decode method_5_code 75 = .ok (.iadd, 1) := by decide +kernel
theorem d6_76 : decode method_5_code 76 = .ok (.iload_n 2, 1) := by decide +kernel
theorem d6_77 : decode method_5_code 77 = .ok (.bipush 12, 2) := by decide +kernel
theorem d6_79 : decode method_5_code 79 = .ok (.isub, 1) := by decide +kernel
theorem d6_80 : decode method_5_code 80 = .ok (.iload_n 3, 1) := by decide +kernel
theorem d6_81 : decode method_5_code 81 = .ok (.invokestatic 40, 3) := by decide +kernel
theorem d6_84 : decode method_5_code 84 = .ok (.ifCond .eq 64, 3) := by decide +kernel
theorem d6_87 : decode method_5_code 87 = .ok (.aload_n 0, 1) := by decide +kernel
theorem d6_88 : decode method_5_code 88 = .ok (.getfield 31, 3) := by decide +kernel
theorem d6_91 : decode method_5_code 91 = .ok (.iload_n 1, 1) := by decide +kernel
theorem d6_92 : decode method_5_code 92 = .ok (.bipush 15, 2) := by decide +kernel
theorem d6_94 : decode method_5_code 94 = .ok (.iadd, 1) := by decide +kernel
theorem d6_95 : decode method_5_code 95 = .ok (.iload_n 2, 1) := by decide +kernel
theorem d6_96 : decode method_5_code 96 = .ok (.bipush 15, 2) := by decide +kernel
theorem d6_98 : decode method_5_code 98 = .ok (.isub, 1) := by decide +kernel
theorem d6_99 : decode method_5_code 99 = .ok (.iload_n 3, 1) := by decide +kernel
theorem d6_100 : decode method_5_code 100 = .ok (.invokestatic 40, 3) := by decide +kernel
theorem d6_103 : decode method_5_code 103 = .ok (.ifCond .eq 45, 3) := by decide +kernel
theorem d6_106 : decode method_5_code 106 = .ok (.aload_n 0, 1) := by decide +kernel
theorem d6_107 : decode method_5_code 107 = .ok (.getfield 34, 3) := by decide +kernel
theorem d6_110 : decode method_5_code 110 = .ok (.iload_n 1, 1) := by decide +kernel
theorem d6_111 : decode method_5_code 111 = .ok (.bipush 18, 2) := by decide +kernel
theorem d6_113 : decode method_5_code 113 = .ok (.iadd, 1) := by decide +kernel
theorem d6_114 : decode method_5_code 114 = .ok (.iload_n 2, 1) := by decide +kernel
theorem d6_115 : decode method_5_code 115 = .ok (.bipush 18, 2) := by decide +kernel
theorem d6_117 : decode method_5_code 117 = .ok (.isub, 1) := by decide +kernel
theorem d6_118 : decode method_5_code 118 = .ok (.iload_n 3, 1) := by decide +kernel
theorem d6_119 : decode method_5_code 119 = .ok (.invokestatic 40, 3) := by decide +kernel
theorem d6_122 : decode method_5_code 122 = .ok (.ifCond .eq 26, 3) := by decide +kernel
theorem d6_125 : decode method_5_code 125 = .ok (.aload_n 0, 1) := by decide +kernel
theorem d6_126 : decode method_5_code 126 = .ok (.getfield 37, 3) := by decide +kernel
theorem d6_129 : decode method_5_code 129 = .ok (.iload_n 1, 1) := by decide +kernel
theorem d6_130 : decode method_5_code 130 = .ok (.bipush 21, 2) := by decide +kernel
theorem d6_132 : decode method_5_code 132 = .ok (.iadd, 1) := by decide +kernel
theorem d6_133 : decode method_5_code 133 = .ok (.iload_n 2, 1) := by decide +kernel
theorem d6_134 : decode method_5_code 134 = .ok (.bipush 21, 2) := by decide +kernel
theorem d6_136 : decode method_5_code 136 = .ok (.isub, 1) := by decide +kernel
theorem d6_137 : decode method_5_code 137 = .ok (.iload_n 3, 1) := by decide +kernel
theorem d6_138 : decode method_5_code 138 = .ok (.invokestatic 40, 3) := by decide +kernel
theorem d6_141 : decode method_5_code 141 = .ok (.ifCond .eq 7, 3) := by decide +kernel
theorem d6_144 : decode method_5_code 144 = .ok (.iconst 1, 1) := by decide +kernel
theorem d6_145 : decode method_5_code 145 = .ok (.goto 4, 3) := by decide +kernel
theorem d6_149 : decode method_5_code 149 = .ok (.ireturn, 1) := by decide +kernel
theorem pd_0 : parseMethodDescriptor "(I)V" = some ⟨[.int], none⟩ := by decide +kernel
theorem pd_2 : parseMethodDescriptor "(Lcom/example/wayfold/wayfold/engine/DayTiming$Timeline;II)V" = some ⟨[(.object "com/example/wayfold/wayfold/engine/DayTiming$Timeline"), .int, .int], none⟩ := by decide +kernel
theorem pd_4 : parseMethodDescriptor "(Lcom/example/wayfold/wayfold/engine/DayTiming$Timeline;)V" = some ⟨[(.object "com/example/wayfold/wayfold/engine/DayTiming$Timeline")], none⟩ := by decide +kernel
theorem pd_6 : parseMethodDescriptor "(Lcom/example/wayfold/wayfold/engine/DayTiming$Timeline;III)Z" = some ⟨[(.object "com/example/wayfold/wayfold/engine/DayTiming$Timeline"), .int, .int, .int], some .boolean⟩ := by decide +kernel
theorem own_nn (x : Int32) : Jvm.Free.Fl.NoNaN64 (FP.i2d x) := nn_w (i2d_w x)
theorem own_dc {x y : Int32} (h : x = y) : cmpValue (FP.dcmp (FP.i2d x) (FP.i2d y)) .l = 0 := dcmpV_eq (by rw [h]) (own_nn x) .l
theorem own_m3 (x : Int32) : 0 ≤ ((x &&& 2147483647) % 3).toInt ∧ ((x &&& 2147483647) % 3).toInt < 3 := by
  have e1 : (x &&& 2147483647).toInt = x.toInt % 2 ^ 31 := Jvm.Kit.i32_mask x 2147483647 (k := 31) (by decide) (by decide)
  have k5 : (3 : Int32).toInt = 3 := by decide
  have e2 := Jvm.Kit.i32_rem_nonneg (x := x &&& 2147483647) (y := 3) (by omega)
  rw [e2, k5]; omega
def own_tri (c : Int32) : List Value := [.double (FP.i2d c), .double (FP.i2d (c + 1)), .double (FP.i2d (c + 2))]
def own_mix (k : Nat) (xs ys : List Value) : List Value := ys.take k ++ xs.drop k
def Q1 (Z : State) (a1 : Addr) (h0 : Heap) (n0 : Nat) (v : Option Value) (h : Heap) (L : List Loc) : Prop := ∃ b0 b1 b2 b3 b4 b5 b6 b7 b8 : Addr, v = none ∧ Fr n0 L ∧ Keep h0 h [a1] ∧ Exa Z h a1 "com/example/wayfold/wayfold/engine/DayTiming$Timeline" ∧ Fld Z h a1 "com/example/wayfold/wayfold/engine/DayTiming$Timeline" "length" "I" (.int (0 : Int32)) ∧ h0.size ≤ b0 ∧ (b0 < b1 ∧ b1 < b2 ∧ b2 < b3 ∧ b3 < b4 ∧ b4 < b5 ∧ b5 < b6 ∧ b6 < b7 ∧ b7 < b8) ∧ b8 < h.size ∧ (Fld Z h a1 "com/example/wayfold/wayfold/engine/DayTiming$Timeline" "nodes" "[I" (.ref b0) ∧ Fld Z h a1 "com/example/wayfold/wayfold/engine/DayTiming$Timeline" "leave" "[D" (.ref b1) ∧ Fld Z h a1 "com/example/wayfold/wayfold/engine/DayTiming$Timeline" "interest" "[D" (.ref b2) ∧ Fld Z h a1 "com/example/wayfold/wayfold/engine/DayTiming$Timeline" "travel" "[D" (.ref b3) ∧ Fld Z h a1 "com/example/wayfold/wayfold/engine/DayTiming$Timeline" "visit" "[D" (.ref b4) ∧ Fld Z h a1 "com/example/wayfold/wayfold/engine/DayTiming$Timeline" "waiting" "[D" (.ref b5) ∧ Fld Z h a1 "com/example/wayfold/wayfold/engine/DayTiming$Timeline" "load" "[D" (.ref b6) ∧ Fld Z h a1 "com/example/wayfold/wayfold/engine/DayTiming$Timeline" "latest" "[D" (.ref b7) ∧ Fld Z h a1 "com/example/wayfold/wayfold/engine/DayTiming$Timeline" "best" "[D" (.ref b8)) ∧ own_Arr Z h b0 .int [.int (0 : Int32), .int (0 : Int32)] ∧ own_Arr Z h b1 .double [(.double (0 : UInt64)), (.double (0 : UInt64)), (.double (0 : UInt64))] ∧ own_Arr Z h b2 .double [(.double (0 : UInt64)), (.double (0 : UInt64)), (.double (0 : UInt64))] ∧ own_Arr Z h b3 .double [(.double (0 : UInt64)), (.double (0 : UInt64)), (.double (0 : UInt64))] ∧ own_Arr Z h b4 .double [(.double (0 : UInt64)), (.double (0 : UInt64)), (.double (0 : UInt64))] ∧ own_Arr Z h b5 .double [(.double (0 : UInt64)), (.double (0 : UInt64)), (.double (0 : UInt64))] ∧ own_Arr Z h b6 .double [(.double (0 : UInt64)), (.double (0 : UInt64)), (.double (0 : UInt64))] ∧ own_Arr Z h b7 .double [(.double (0 : UInt64)), (.double (0 : UInt64)), (.double (0 : UInt64))] ∧ own_Arr Z h b8 .double [(.double (0 : UInt64)), (.double (0 : UInt64)), (.double (0 : UInt64))]
def Q4 (Z : State) (a1 : Addr) (c : Int32) (h0 : Heap) (n0 : Nat) (v : Option Value) (h : Heap) (L : List Loc) : Prop := v = none ∧ Fr n0 L ∧ Keep h0 h [a1] ∧ own_Arr Z h a1 .double (own_tri c)
def Q3 (Z : State) (b1 b2 b3 b4 b5 b6 b7 b8 : Addr) (c d : Int32) (h0 : Heap) (n0 : Nat) (v : Option Value) (h : Heap) (L : List Loc) : Prop := v = none ∧ Fr n0 L ∧ Keep h0 h [b1, b2, b3, b4, b5, b6, b7, b8] ∧ own_Arr Z h b1 .double (own_tri c) ∧ own_Arr Z h b2 .double (own_tri (c + d)) ∧ own_Arr Z h b3 .double (own_tri (c + ((2 : Int32) * d))) ∧ own_Arr Z h b4 .double (own_tri (c + ((3 : Int32) * d))) ∧ own_Arr Z h b5 .double (own_tri (c + ((4 : Int32) * d))) ∧ own_Arr Z h b6 .double (own_tri (c + ((5 : Int32) * d))) ∧ own_Arr Z h b7 .double (own_tri (c + ((6 : Int32) * d))) ∧ own_Arr Z h b8 .double (own_tri (c + ((7 : Int32) * d)))
def Q5 (Z : State) (a1 r0 r1 r2 r3 r4 r5 r6 r7 r8 : Addr) (len : Int32) (k : Nat) (x0 x1 x2 x3 x4 x5 x6 x7 x8 y0 y1 y2 y3 y4 y5 y6 y7 y8 : List Value) (h0 : Heap) (n0 : Nat) (v : Option Value) (h : Heap) (L : List Loc) : Prop := v = none ∧ Fr n0 L ∧ Keep h0 h [a1, r0, r1, r2, r3, r4, r5, r6, r7, r8] ∧ Exa Z h a1 "com/example/wayfold/wayfold/engine/DayTiming$Timeline" ∧ Fld Z h a1 "com/example/wayfold/wayfold/engine/DayTiming$Timeline" "length" "I" (.int len) ∧ (Fld Z h a1 "com/example/wayfold/wayfold/engine/DayTiming$Timeline" "nodes" "[I" (.ref r0) ∧ Fld Z h a1 "com/example/wayfold/wayfold/engine/DayTiming$Timeline" "leave" "[D" (.ref r1) ∧ Fld Z h a1 "com/example/wayfold/wayfold/engine/DayTiming$Timeline" "interest" "[D" (.ref r2) ∧ Fld Z h a1 "com/example/wayfold/wayfold/engine/DayTiming$Timeline" "travel" "[D" (.ref r3) ∧ Fld Z h a1 "com/example/wayfold/wayfold/engine/DayTiming$Timeline" "visit" "[D" (.ref r4) ∧ Fld Z h a1 "com/example/wayfold/wayfold/engine/DayTiming$Timeline" "waiting" "[D" (.ref r5) ∧ Fld Z h a1 "com/example/wayfold/wayfold/engine/DayTiming$Timeline" "load" "[D" (.ref r6) ∧ Fld Z h a1 "com/example/wayfold/wayfold/engine/DayTiming$Timeline" "latest" "[D" (.ref r7) ∧ Fld Z h a1 "com/example/wayfold/wayfold/engine/DayTiming$Timeline" "best" "[D" (.ref r8)) ∧ own_Arr Z h r0 .int (own_mix k x0 y0) ∧ own_Arr Z h r1 .double (own_mix (k + 1) x1 y1) ∧ own_Arr Z h r2 .double (own_mix (k + 1) x2 y2) ∧ own_Arr Z h r3 .double (own_mix (k + 1) x3 y3) ∧ own_Arr Z h r4 .double (own_mix (k + 1) x4 y4) ∧ own_Arr Z h r5 .double (own_mix (k + 1) x5 y5) ∧ own_Arr Z h r6 .double (own_mix (k + 1) x6 y6) ∧ own_Arr Z h r7 .double (own_mix (k + 1) x7 y7) ∧ own_Arr Z h r8 .double (own_mix (k + 1) x8 y8)
def QT (h0 : Heap) (n0 : Nat) (v : Option Value) (h : Heap) (L : List Loc) : Prop := v = some (.int (1 : Int32)) ∧ Fr n0 L ∧ h = h0
def Q0 (n0 : Nat) (v : Option Value) (h : Heap) (L : List Loc) : Prop := v = some (.int (1 : Int32)) ∧ Fr n0 L
theorem own_l3 {k : Int32} (h0 : 0 ≤ k.toInt) (h1 : k.toInt < 3) : k = 0 ∨ k = 1 ∨ k = 2 := by
  simp only [← Int32.toInt_inj, show (0 : Int32).toInt = 0 from by decide, show (1 : Int32).toInt = 1 from by decide, show (2 : Int32).toInt = 2 from by decide]
  omega
theorem own_s1 (x : Int32) : (x + (3 : Int32)) = x + 3 := congrArg (x + ·) (by decide)
theorem own_o1 (x : Int32) : (x + (-3 : Int32)) = x - 3 := by first | (rw [Int32.sub_eq_add_neg]; done) | (rw [Int32.sub_eq_add_neg]; exact congrArg (x + ·) (by decide))
theorem own_s2 (x : Int32) : (x + ((2 : Int32) * (3 : Int32))) = x + 6 := congrArg (x + ·) (by decide)
theorem own_o2 (x : Int32) : (x + ((2 : Int32) * (-3 : Int32))) = x - 6 := by first | (rw [Int32.sub_eq_add_neg]; done) | (rw [Int32.sub_eq_add_neg]; exact congrArg (x + ·) (by decide))
theorem own_s3 (x : Int32) : (x + ((3 : Int32) * (3 : Int32))) = x + 9 := congrArg (x + ·) (by decide)
theorem own_o3 (x : Int32) : (x + ((3 : Int32) * (-3 : Int32))) = x - 9 := by first | (rw [Int32.sub_eq_add_neg]; done) | (rw [Int32.sub_eq_add_neg]; exact congrArg (x + ·) (by decide))
theorem own_s4 (x : Int32) : (x + ((4 : Int32) * (3 : Int32))) = x + 12 := congrArg (x + ·) (by decide)
theorem own_o4 (x : Int32) : (x + ((4 : Int32) * (-3 : Int32))) = x - 12 := by first | (rw [Int32.sub_eq_add_neg]; done) | (rw [Int32.sub_eq_add_neg]; exact congrArg (x + ·) (by decide))
theorem own_s5 (x : Int32) : (x + ((5 : Int32) * (3 : Int32))) = x + 15 := congrArg (x + ·) (by decide)
theorem own_o5 (x : Int32) : (x + ((5 : Int32) * (-3 : Int32))) = x - 15 := by first | (rw [Int32.sub_eq_add_neg]; done) | (rw [Int32.sub_eq_add_neg]; exact congrArg (x + ·) (by decide))
theorem own_s6 (x : Int32) : (x + ((6 : Int32) * (3 : Int32))) = x + 18 := congrArg (x + ·) (by decide)
theorem own_o6 (x : Int32) : (x + ((6 : Int32) * (-3 : Int32))) = x - 18 := by first | (rw [Int32.sub_eq_add_neg]; done) | (rw [Int32.sub_eq_add_neg]; exact congrArg (x + ·) (by decide))
theorem own_s7 (x : Int32) : (x + ((7 : Int32) * (3 : Int32))) = x + 21 := congrArg (x + ·) (by decide)
theorem own_o7 (x : Int32) : (x + ((7 : Int32) * (-3 : Int32))) = x - 21 := by first | (rw [Int32.sub_eq_add_neg]; done) | (rw [Int32.sub_eq_add_neg]; exact congrArg (x + ·) (by decide))
theorem ef_1 (m : MethodId) (a1 : Addr) : entryFrame m #[(.ref a1), (.int (2 : Int32))] 2 = mkF m 0 #[.val (.ref a1), .val (.int (2 : Int32))] [] := by first | (simp [entryFrame, mkF, argsToLocals, Value.category]; done) | rfl
set_option maxRecDepth 65536 in
set_option maxHeartbeats 40000000 in
theorem rm1 (l : Launch) (Z : State) (a0 : Array Value) (hw : ∀ d ∈ tables_1, d.before a0 Z = true) (ws : List Jvm.Cond) (a1 : Addr) (h0 : Heap) (n0 : Nat) (Z0 : n0 ≤ h0.size) (E_a1 : Exa Z h0 a1 "com/example/wayfold/wayfold/engine/DayTiming$Timeline") (F_length : Fld Z h0 a1 "com/example/wayfold/wayfold/engine/DayTiming$Timeline" "length" "I" (.int (0 : Int32))) (F_nodes : Fld Z h0 a1 "com/example/wayfold/wayfold/engine/DayTiming$Timeline" "nodes" "[I" .null) (F_leave : Fld Z h0 a1 "com/example/wayfold/wayfold/engine/DayTiming$Timeline" "leave" "[D" .null) (F_interest : Fld Z h0 a1 "com/example/wayfold/wayfold/engine/DayTiming$Timeline" "interest" "[D" .null) (F_travel : Fld Z h0 a1 "com/example/wayfold/wayfold/engine/DayTiming$Timeline" "travel" "[D" .null) (F_visit : Fld Z h0 a1 "com/example/wayfold/wayfold/engine/DayTiming$Timeline" "visit" "[D" .null) (F_waiting : Fld Z h0 a1 "com/example/wayfold/wayfold/engine/DayTiming$Timeline" "waiting" "[D" .null) (F_load : Fld Z h0 a1 "com/example/wayfold/wayfold/engine/DayTiming$Timeline" "load" "[D" .null) (F_latest : Fld Z h0 a1 "com/example/wayfold/wayfold/engine/DayTiming$Timeline" "latest" "[D" .null) (F_best : Fld Z h0 a1 "com/example/wayfold/wayfold/engine/DayTiming$Timeline" "best" "[D" .null) (g_a1 : n0 ≤ a1) :
    MetFree l (⟨"com/example/wayfold/wayfold/engine/DayTiming$Timeline", "<init>", "(I)V"⟩ : MethodName) (head1 (Jvm.Cond.code (⟨"com/example/wayfold/wayfold/engine/DayTiming$Timeline", "<init>", "(I)V"⟩ : MethodName) prog_4_method_1_code 2 none :: ws) ({ frames := 1, cells := 9, slots := 26, locals := 14 } : Room)) (fun a U => a = #[(.ref a1), (.int (2 : Int32))] ∧ Z.Warmed39 U.vm ∧ U.heap = h0) (fun _ _ _ _ _ => True) (fun _ U o U' => ∃ v L, o = .returned v ∧ Q1 Z a1 h0 n0 v U'.heap L ∧ FrameEnd U o U' L ({ frames := 1, cells := 9, slots := 26, locals := 14 } : Room).cells ({ frames := 1, cells := 9, slots := 26, locals := 14 } : Room).slots) := by
  refine MetFree.of_bodySF (plainFor_of_name pn_1) hisR ?_
  intro p e s m args below meth c s₁ Bd hml0 hP hK
  obtain ⟨rfl, hZ, hh⟩ := hP
  have hx := Bd.exec
  have hby := Bd.bytes
  have hml : c.maxLocals = 2 := hml0
  have hown : s.vm.findClass "com/example/wayfold/wayfold/engine/DayTiming$Timeline" = some m.cls := findClass_of_methodNamed Bd.named
  have hnm := (name_of_methodNamed Bd.named Bd.method).1
  have hlk : meth.locks = false := BodyLoose.notSynchronized Bd
  have X0 : Stand p l e ({ frames := 1, cells := 9, slots := 26, locals := 14 } : Room) s m #[(.ref a1), (.int (2 : Int32))] below meth c s₁ [] 0 0 := Stand.of_body Bd
  have e0 : s₁.heap = h0 := by rw [← hh, Bd.state]; rfl
  have N0 := Fr.nil n0
  refine own_start (Q := Q1 Z a1 h0 n0) (ef_1 m a1) ?_
  have K0 := Keep.refl h0 [a1]
  show own_Go p e below _ s₁ (mkF m 0 #[.val (.ref a1), .val (.int (2 : Int32))] [])
  refine own_by (fun t_ k_ => XS.aloadN X0.here hx rfl (hb hby d1_0) rfl rfl k_) ?_
  show own_Go p e below _ s₁ (mkF m 1 #[.val (.ref a1), .val (.int (2 : Int32))] [(.ref a1)])
  refine own_initO X0 hx hZ hown (own_w hw 8 rfl) (own_w hw 9 rfl) (own_w hw 10 rfl) e0 (by rw [hml]; rfl) (hb hby d1_1) (by decide) (W := 0) (Nat.le_of_eq rfl) (by decide) ?_
  intro T1 X1 e1
  show own_Go p e below _ T1 (mkF m 4 #[.val (.ref a1), .val (.int (2 : Int32))] [])
  refine own_by (fun t_ k_ => XS.aloadN X1.here hx rfl (hb hby d1_4) rfl rfl k_) ?_
  show own_Go p e below _ T1 (mkF m 5 #[.val (.ref a1), .val (.int (2 : Int32))] [(.ref a1)])
  refine own_by (fun t_ k_ => XS.iloadN X1.here hx rfl (hb hby d1_5) rfl k_) ?_
  show own_Go p e below _ T1 (mkF m 6 #[.val (.ref a1), .val (.int (2 : Int32))] [(.int (2 : Int32)), (.ref a1)])
  refine own_newP X1 hx hZ (own_w hw 11 rfl) e1 (hb hby d1_6) 2 2 (by decide) (by decide) (by decide) (by decide) (by decide) ?_
  intro T2 h2 b2 X2 e2 g2 E2 A2
  have lt_a1_b2 : a1 < b2 := Nat.lt_of_lt_of_le E_a1.lt (Nat.le_of_eq g2.symm)
  have g_b2 : n0 ≤ b2 := Nat.le_trans Z0 (Nat.le_of_eq g2.symm)
  have sz2 : n0 ≤ h2.size := Nat.le_trans Z0 E2.1
  have szk_b2 : h0.size ≤ b2 := Nat.le_trans K0.1 (Nat.le_of_eq g2.symm)
  have K2 : Keep h0 h2 [a1] := K0.ext E2
  have V2_0 : own_Arr Z h2 b2 .int [(.int (0 : Int32)), (.int (0 : Int32))] := A2
  show own_Go p e below _ T2 (mkF m 8 #[.val (.ref a1), .val (.int (2 : Int32))] [(.ref b2), (.ref a1)])
  have F_nodes_4 : Fld Z h2 a1 "com/example/wayfold/wayfold/engine/DayTiming$Timeline" "nodes" "[I" .null := (Fld.ext E2 F_nodes)
  have E_a1_5 : Exa Z h2 a1 "com/example/wayfold/wayfold/engine/DayTiming$Timeline" := (Exa.ext E2 E_a1)
  refine own_putF X2 hx hZ hown (own_w hw 12 rfl) Via.refl e2 F_nodes_4 E_a1_5 (Or.inr ⟨(own_w hw 13 rfl), rfl, hnm⟩) (own_w hw 3 rfl) (ty := (.array .int)) (by decide) rfl rfl (hb hby d1_8) ?_
  intro T3 h3 X3 e3 W3
  have F3 := Fld.same W3 F_nodes_4
  have N3 := Fr.snoc X3 N0 g_a1
  have sz3 : n0 ≤ h3.size := Nat.le_trans sz2 (Keep.of_wr W3).1
  have K3 : Keep h0 h3 [a1] := K2.wr W3 (Or.inl (List.mem_cons_self ..))
  show own_Go p e below _ T3 (mkF m 11 #[.val (.ref a1), .val (.int (2 : Int32))] [])
  refine own_by (fun t_ k_ => XS.aloadN X3.here hx rfl (hb hby d1_11) rfl rfl k_) ?_
  show own_Go p e below _ T3 (mkF m 12 #[.val (.ref a1), .val (.int (2 : Int32))] [(.ref a1)])
  refine own_by (fun t_ k_ => XS.iloadN X3.here hx rfl (hb hby d1_12) rfl k_) ?_
  show own_Go p e below _ T3 (mkF m 13 #[.val (.ref a1), .val (.int (2 : Int32))] [(.int (2 : Int32)), (.ref a1)])
  refine own_by (fun t_ k_ => XS.iconst X3.here hx rfl (hb hby d1_13) k_) ?_
  show own_Go p e below _ T3 (mkF m 14 #[.val (.ref a1), .val (.int (2 : Int32))] [(.int (1 : Int32)), (.int (2 : Int32)), (.ref a1)])
  refine own_by (fun t_ k_ => XS.iadd X3.here hx rfl (hb hby d1_14) rfl k_) ?_
  show own_Go p e below _ T3 (mkF m 15 #[.val (.ref a1), .val (.int (2 : Int32))] [(.int (3 : Int32)), (.ref a1)])
  refine own_newP X3 hx hZ (own_w hw 14 rfl) e3 (hb hby d1_15) 3 3 (by decide) (by decide) (by decide) (by decide) (by decide) ?_
  intro T6 h6 b6 X6 e6 g6 E6 A6
  have E_a1_7 : Exa Z h3 a1 "com/example/wayfold/wayfold/engine/DayTiming$Timeline" := (Exa.wr W3 E_a1_5)
  have lt_a1_b6 : a1 < b6 := Nat.lt_of_lt_of_le E_a1_7.lt (Nat.le_of_eq g6.symm)
  have V2_8 : own_Arr Z h3 b2 .int [(.int (0 : Int32)), (.int (0 : Int32))] := (own_Arr.other V2_0 W3 (Ne.symm (Nat.ne_of_lt lt_a1_b2)))
  have lt_b2_b6 : b2 < b6 := Nat.lt_of_lt_of_le V2_8.lt (Nat.le_of_eq g6.symm)
  have g_b6 : n0 ≤ b6 := Nat.le_trans sz3 (Nat.le_of_eq g6.symm)
  have sz6 : n0 ≤ h6.size := Nat.le_trans sz3 E6.1
  have szk_b6 : h0.size ≤ b6 := Nat.le_trans K3.1 (Nat.le_of_eq g6.symm)
  have K6 : Keep h0 h6 [a1] := K3.ext E6
  have V6_0 : own_Arr Z h6 b6 .double [(defaultValue .double), (defaultValue .double), (defaultValue .double)] := A6
  show own_Go p e below _ T6 (mkF m 17 #[.val (.ref a1), .val (.int (2 : Int32))] [(.ref b6), (.ref a1)])
  have F_leave_10 : Fld Z h6 a1 "com/example/wayfold/wayfold/engine/DayTiming$Timeline" "leave" "[D" .null := (Fld.ext E6 (Fld.other W3 (Fld.ext E2 F_leave) (Or.inr (slot_ne (Or.inr (own_w hw 16 rfl)) (Or.inr (own_w hw 13 rfl)) (by decide) (t := (.array .double)) (t' := (.array .int)) (by decide) (by decide)))))
  have E_a1_11 : Exa Z h6 a1 "com/example/wayfold/wayfold/engine/DayTiming$Timeline" := (Exa.ext E6 E_a1_7)
  refine own_putF X6 hx hZ hown (own_w hw 15 rfl) Via.refl e6 F_leave_10 E_a1_11 (Or.inr ⟨(own_w hw 16 rfl), rfl, hnm⟩) (own_w hw 3 rfl) (ty := (.array .double)) (by decide) rfl rfl (hb hby d1_17) ?_
  intro T9 h9 X9 e9 W9
  have F9 := Fld.same W9 F_leave_10
  have N9 := Fr.snoc X9 N3 g_a1
  have sz9 : n0 ≤ h9.size := Nat.le_trans sz6 (Keep.of_wr W9).1
  have K9 : Keep h0 h9 [a1] := K6.wr W9 (Or.inl (List.mem_cons_self ..))
  show own_Go p e below _ T9 (mkF m 20 #[.val (.ref a1), .val (.int (2 : Int32))] [])
  refine own_by (fun t_ k_ => XS.aloadN X9.here hx rfl (hb hby d1_20) rfl rfl k_) ?_
  show own_Go p e below _ T9 (mkF m 21 #[.val (.ref a1), .val (.int (2 : Int32))] [(.ref a1)])
  refine own_by (fun t_ k_ => XS.iloadN X9.here hx rfl (hb hby d1_21) rfl k_) ?_
  show own_Go p e below _ T9 (mkF m 22 #[.val (.ref a1), .val (.int (2 : Int32))] [(.int (2 : Int32)), (.ref a1)])
  refine own_by (fun t_ k_ => XS.iconst X9.here hx rfl (hb hby d1_22) k_) ?_
  show own_Go p e below _ T9 (mkF m 23 #[.val (.ref a1), .val (.int (2 : Int32))] [(.int (1 : Int32)), (.int (2 : Int32)), (.ref a1)])
  refine own_by (fun t_ k_ => XS.iadd X9.here hx rfl (hb hby d1_23) rfl k_) ?_
  show own_Go p e below _ T9 (mkF m 24 #[.val (.ref a1), .val (.int (2 : Int32))] [(.int (3 : Int32)), (.ref a1)])
  refine own_newP X9 hx hZ (own_w hw 14 rfl) e9 (hb hby d1_24) 3 3 (by decide) (by decide) (by decide) (by decide) (by decide) ?_
  intro T12 h12 b12 X12 e12 g12 E12 A12
  have E_a1_13 : Exa Z h9 a1 "com/example/wayfold/wayfold/engine/DayTiming$Timeline" := (Exa.wr W9 E_a1_11)
  have lt_a1_b12 : a1 < b12 := Nat.lt_of_lt_of_le E_a1_13.lt (Nat.le_of_eq g12.symm)
  have V2_14 : own_Arr Z h9 b2 .int [(.int (0 : Int32)), (.int (0 : Int32))] := (own_Arr.other (own_Arr.ext V2_8 E6) W9 (Ne.symm (Nat.ne_of_lt lt_a1_b2)))
  have lt_b2_b12 : b2 < b12 := Nat.lt_of_lt_of_le V2_14.lt (Nat.le_of_eq g12.symm)
  have V6_15 : own_Arr Z h9 b6 .double [(defaultValue .double), (defaultValue .double), (defaultValue .double)] := (own_Arr.other V6_0 W9 (Ne.symm (Nat.ne_of_lt lt_a1_b6)))
  have lt_b6_b12 : b6 < b12 := Nat.lt_of_lt_of_le V6_15.lt (Nat.le_of_eq g12.symm)
  have g_b12 : n0 ≤ b12 := Nat.le_trans sz9 (Nat.le_of_eq g12.symm)
  have sz12 : n0 ≤ h12.size := Nat.le_trans sz9 E12.1
  have szk_b12 : h0.size ≤ b12 := Nat.le_trans K9.1 (Nat.le_of_eq g12.symm)
  have K12 : Keep h0 h12 [a1] := K9.ext E12
  have V12_0 : own_Arr Z h12 b12 .double [(defaultValue .double), (defaultValue .double), (defaultValue .double)] := A12
  show own_Go p e below _ T12 (mkF m 26 #[.val (.ref a1), .val (.int (2 : Int32))] [(.ref b12), (.ref a1)])
  have F_interest_17 : Fld Z h12 a1 "com/example/wayfold/wayfold/engine/DayTiming$Timeline" "interest" "[D" .null := (Fld.ext E12 (Fld.other W9 (Fld.ext E6 (Fld.other W3 (Fld.ext E2 F_interest) (Or.inr (slot_ne (Or.inr (own_w hw 18 rfl)) (Or.inr (own_w hw 13 rfl)) (by decide) (t := (.array .double)) (t' := (.array .int)) (by decide) (by decide))))) (Or.inr (slot_ne (Or.inr (own_w hw 18 rfl)) (Or.inr (own_w hw 16 rfl)) (by decide) (t := (.array .double)) (t' := (.array .double)) (by decide) (by decide)))))
  have E_a1_18 : Exa Z h12 a1 "com/example/wayfold/wayfold/engine/DayTiming$Timeline" := (Exa.ext E12 E_a1_13)
  refine own_putF X12 hx hZ hown (own_w hw 17 rfl) Via.refl e12 F_interest_17 E_a1_18 (Or.inr ⟨(own_w hw 18 rfl), rfl, hnm⟩) (own_w hw 3 rfl) (ty := (.array .double)) (by decide) rfl rfl (hb hby d1_26) ?_
  intro T16 h16 X16 e16 W16
  have F16 := Fld.same W16 F_interest_17
  have N16 := Fr.snoc X16 N9 g_a1
  have sz16 : n0 ≤ h16.size := Nat.le_trans sz12 (Keep.of_wr W16).1
  have K16 : Keep h0 h16 [a1] := K12.wr W16 (Or.inl (List.mem_cons_self ..))
  show own_Go p e below _ T16 (mkF m 29 #[.val (.ref a1), .val (.int (2 : Int32))] [])
  refine own_by (fun t_ k_ => XS.aloadN X16.here hx rfl (hb hby d1_29) rfl rfl k_) ?_
  show own_Go p e below _ T16 (mkF m 30 #[.val (.ref a1), .val (.int (2 : Int32))] [(.ref a1)])
  refine own_by (fun t_ k_ => XS.iloadN X16.here hx rfl (hb hby d1_30) rfl k_) ?_
  show own_Go p e below _ T16 (mkF m 31 #[.val (.ref a1), .val (.int (2 : Int32))] [(.int (2 : Int32)), (.ref a1)])
  refine own_by (fun t_ k_ => XS.iconst X16.here hx rfl (hb hby d1_31) k_) ?_
  show own_Go p e below _ T16 (mkF m 32 #[.val (.ref a1), .val (.int (2 : Int32))] [(.int (1 : Int32)), (.int (2 : Int32)), (.ref a1)])
  refine own_by (fun t_ k_ => XS.iadd X16.here hx rfl (hb hby d1_32) rfl k_) ?_
  show own_Go p e below _ T16 (mkF m 33 #[.val (.ref a1), .val (.int (2 : Int32))] [(.int (3 : Int32)), (.ref a1)])
  refine own_newP X16 hx hZ (own_w hw 14 rfl) e16 (hb hby d1_33) 3 3 (by decide) (by decide) (by decide) (by decide) (by decide) ?_
  intro T19 h19 b19 X19 e19 g19 E19 A19
  have E_a1_20 : Exa Z h16 a1 "com/example/wayfold/wayfold/engine/DayTiming$Timeline" := (Exa.wr W16 E_a1_18)
  have lt_a1_b19 : a1 < b19 := Nat.lt_of_lt_of_le E_a1_20.lt (Nat.le_of_eq g19.symm)
  have V2_21 : own_Arr Z h16 b2 .int [(.int (0 : Int32)), (.int (0 : Int32))] := (own_Arr.other (own_Arr.ext V2_14 E12) W16 (Ne.symm (Nat.ne_of_lt lt_a1_b2)))
  have lt_b2_b19 : b2 < b19 := Nat.lt_of_lt_of_le V2_21.lt (Nat.le_of_eq g19.symm)
  have V6_22 : own_Arr Z h16 b6 .double [(defaultValue .double), (defaultValue .double), (defaultValue .double)] := (own_Arr.other (own_Arr.ext V6_15 E12) W16 (Ne.symm (Nat.ne_of_lt lt_a1_b6)))
  have lt_b6_b19 : b6 < b19 := Nat.lt_of_lt_of_le V6_22.lt (Nat.le_of_eq g19.symm)
  have V12_23 : own_Arr Z h16 b12 .double [(defaultValue .double), (defaultValue .double), (defaultValue .double)] := (own_Arr.other V12_0 W16 (Ne.symm (Nat.ne_of_lt lt_a1_b12)))
  have lt_b12_b19 : b12 < b19 := Nat.lt_of_lt_of_le V12_23.lt (Nat.le_of_eq g19.symm)
  have g_b19 : n0 ≤ b19 := Nat.le_trans sz16 (Nat.le_of_eq g19.symm)
  have sz19 : n0 ≤ h19.size := Nat.le_trans sz16 E19.1
  have szk_b19 : h0.size ≤ b19 := Nat.le_trans K16.1 (Nat.le_of_eq g19.symm)
  have K19 : Keep h0 h19 [a1] := K16.ext E19
  have V19_0 : own_Arr Z h19 b19 .double [(defaultValue .double), (defaultValue .double), (defaultValue .double)] := A19
  show own_Go p e below _ T19 (mkF m 35 #[.val (.ref a1), .val (.int (2 : Int32))] [(.ref b19), (.ref a1)])
  have F_travel_25 : Fld Z h19 a1 "com/example/wayfold/wayfold/engine/DayTiming$Timeline" "travel" "[D" .null := (Fld.ext E19 (Fld.other W16 (Fld.ext E12 (Fld.other W9 (Fld.ext E6 (Fld.other W3 (Fld.ext E2 F_travel) (Or.inr (slot_ne (Or.inr (own_w hw 20 rfl)) (Or.inr (own_w hw 13 rfl)) (by decide) (t := (.array .double)) (t' := (.array .int)) (by decide) (by decide))))) (Or.inr (slot_ne (Or.inr (own_w hw 20 rfl)) (Or.inr (own_w hw 16 rfl)) (by decide) (t := (.array .double)) (t' := (.array .double)) (by decide) (by decide))))) (Or.inr (slot_ne (Or.inr (own_w hw 20 rfl)) (Or.inr (own_w hw 18 rfl)) (by decide) (t := (.array .double)) (t' := (.array .double)) (by decide) (by decide)))))
  have E_a1_26 : Exa Z h19 a1 "com/example/wayfold/wayfold/engine/DayTiming$Timeline" := (Exa.ext E19 E_a1_20)
  refine own_putF X19 hx hZ hown (own_w hw 19 rfl) Via.refl e19 F_travel_25 E_a1_26 (Or.inr ⟨(own_w hw 20 rfl), rfl, hnm⟩) (own_w hw 3 rfl) (ty := (.array .double)) (by decide) rfl rfl (hb hby d1_35) ?_
  intro T24 h24 X24 e24 W24
  have F24 := Fld.same W24 F_travel_25
  have N24 := Fr.snoc X24 N16 g_a1
  have sz24 : n0 ≤ h24.size := Nat.le_trans sz19 (Keep.of_wr W24).1
  have K24 : Keep h0 h24 [a1] := K19.wr W24 (Or.inl (List.mem_cons_self ..))
  show own_Go p e below _ T24 (mkF m 38 #[.val (.ref a1), .val (.int (2 : Int32))] [])
  refine own_by (fun t_ k_ => XS.aloadN X24.here hx rfl (hb hby d1_38) rfl rfl k_) ?_
  show own_Go p e below _ T24 (mkF m 39 #[.val (.ref a1), .val (.int (2 : Int32))] [(.ref a1)])
  refine own_by (fun t_ k_ => XS.iloadN X24.here hx rfl (hb hby d1_39) rfl k_) ?_
  show own_Go p e below _ T24 (mkF m 40 #[.val (.ref a1), .val (.int (2 : Int32))] [(.int (2 : Int32)), (.ref a1)])
  refine own_by (fun t_ k_ => XS.iconst X24.here hx rfl (hb hby d1_40) k_) ?_
  show own_Go p e below _ T24 (mkF m 41 #[.val (.ref a1), .val (.int (2 : Int32))] [(.int (1 : Int32)), (.int (2 : Int32)), (.ref a1)])
  refine own_by (fun t_ k_ => XS.iadd X24.here hx rfl (hb hby d1_41) rfl k_) ?_
  show own_Go p e below _ T24 (mkF m 42 #[.val (.ref a1), .val (.int (2 : Int32))] [(.int (3 : Int32)), (.ref a1)])
  refine own_newP X24 hx hZ (own_w hw 14 rfl) e24 (hb hby d1_42) 3 3 (by decide) (by decide) (by decide) (by decide) (by decide) ?_
  intro T27 h27 b27 X27 e27 g27 E27 A27
  have E_a1_28 : Exa Z h24 a1 "com/example/wayfold/wayfold/engine/DayTiming$Timeline" := (Exa.wr W24 E_a1_26)
  have lt_a1_b27 : a1 < b27 := Nat.lt_of_lt_of_le E_a1_28.lt (Nat.le_of_eq g27.symm)
  have V2_29 : own_Arr Z h24 b2 .int [(.int (0 : Int32)), (.int (0 : Int32))] := (own_Arr.other (own_Arr.ext V2_21 E19) W24 (Ne.symm (Nat.ne_of_lt lt_a1_b2)))
  have lt_b2_b27 : b2 < b27 := Nat.lt_of_lt_of_le V2_29.lt (Nat.le_of_eq g27.symm)
  have V6_30 : own_Arr Z h24 b6 .double [(defaultValue .double), (defaultValue .double), (defaultValue .double)] := (own_Arr.other (own_Arr.ext V6_22 E19) W24 (Ne.symm (Nat.ne_of_lt lt_a1_b6)))
  have lt_b6_b27 : b6 < b27 := Nat.lt_of_lt_of_le V6_30.lt (Nat.le_of_eq g27.symm)
  have V12_31 : own_Arr Z h24 b12 .double [(defaultValue .double), (defaultValue .double), (defaultValue .double)] := (own_Arr.other (own_Arr.ext V12_23 E19) W24 (Ne.symm (Nat.ne_of_lt lt_a1_b12)))
  have lt_b12_b27 : b12 < b27 := Nat.lt_of_lt_of_le V12_31.lt (Nat.le_of_eq g27.symm)
  have V19_32 : own_Arr Z h24 b19 .double [(defaultValue .double), (defaultValue .double), (defaultValue .double)] := (own_Arr.other V19_0 W24 (Ne.symm (Nat.ne_of_lt lt_a1_b19)))
  have lt_b19_b27 : b19 < b27 := Nat.lt_of_lt_of_le V19_32.lt (Nat.le_of_eq g27.symm)
  have g_b27 : n0 ≤ b27 := Nat.le_trans sz24 (Nat.le_of_eq g27.symm)
  have sz27 : n0 ≤ h27.size := Nat.le_trans sz24 E27.1
  have szk_b27 : h0.size ≤ b27 := Nat.le_trans K24.1 (Nat.le_of_eq g27.symm)
  have K27 : Keep h0 h27 [a1] := K24.ext E27
  have V27_0 : own_Arr Z h27 b27 .double [(defaultValue .double), (defaultValue .double), (defaultValue .double)] := A27
  show own_Go p e below _ T27 (mkF m 44 #[.val (.ref a1), .val (.int (2 : Int32))] [(.ref b27), (.ref a1)])
  have F_visit_34 : Fld Z h27 a1 "com/example/wayfold/wayfold/engine/DayTiming$Timeline" "visit" "[D" .null := (Fld.ext E27 (Fld.other W24 (Fld.ext E19 (Fld.other W16 (Fld.ext E12 (Fld.other W9 (Fld.ext E6 (Fld.other W3 (Fld.ext E2 F_visit) (Or.inr (slot_ne (Or.inr (own_w hw 22 rfl)) (Or.inr (own_w hw 13 rfl)) (by decide) (t := (.array .double)) (t' := (.array .int)) (by decide) (by decide))))) (Or.inr (slot_ne (Or.inr (own_w hw 22 rfl)) (Or.inr (own_w hw 16 rfl)) (by decide) (t := (.array .double)) (t' := (.array .double)) (by decide) (by decide))))) (Or.inr (slot_ne (Or.inr (own_w hw 22 rfl)) (Or.inr (own_w hw 18 rfl)) (by decide) (t := (.array .double)) (t' := (.array .double)) (by decide) (by decide))))) (Or.inr (slot_ne (Or.inr (own_w hw 22 rfl)) (Or.inr (own_w hw 20 rfl)) (by decide) (t := (.array .double)) (t' := (.array .double)) (by decide) (by decide)))))
  have E_a1_35 : Exa Z h27 a1 "com/example/wayfold/wayfold/engine/DayTiming$Timeline" := (Exa.ext E27 E_a1_28)
  refine own_putF X27 hx hZ hown (own_w hw 21 rfl) Via.refl e27 F_visit_34 E_a1_35 (Or.inr ⟨(own_w hw 22 rfl), rfl, hnm⟩) (own_w hw 3 rfl) (ty := (.array .double)) (by decide) rfl rfl (hb hby d1_44) ?_
  intro T33 h33 X33 e33 W33
  have F33 := Fld.same W33 F_visit_34
  have N33 := Fr.snoc X33 N24 g_a1
  have sz33 : n0 ≤ h33.size := Nat.le_trans sz27 (Keep.of_wr W33).1
  have K33 : Keep h0 h33 [a1] := K27.wr W33 (Or.inl (List.mem_cons_self ..))
  show own_Go p e below _ T33 (mkF m 47 #[.val (.ref a1), .val (.int (2 : Int32))] [])
  refine own_by (fun t_ k_ => XS.aloadN X33.here hx rfl (hb hby d1_47) rfl rfl k_) ?_
  show own_Go p e below _ T33 (mkF m 48 #[.val (.ref a1), .val (.int (2 : Int32))] [(.ref a1)])
  refine own_by (fun t_ k_ => XS.iloadN X33.here hx rfl (hb hby d1_48) rfl k_) ?_
  show own_Go p e below _ T33 (mkF m 49 #[.val (.ref a1), .val (.int (2 : Int32))] [(.int (2 : Int32)), (.ref a1)])
  refine own_by (fun t_ k_ => XS.iconst X33.here hx rfl (hb hby d1_49) k_) ?_
  show own_Go p e below _ T33 (mkF m 50 #[.val (.ref a1), .val (.int (2 : Int32))] [(.int (1 : Int32)), (.int (2 : Int32)), (.ref a1)])
  refine own_by (fun t_ k_ => XS.iadd X33.here hx rfl (hb hby d1_50) rfl k_) ?_
  show own_Go p e below _ T33 (mkF m 51 #[.val (.ref a1), .val (.int (2 : Int32))] [(.int (3 : Int32)), (.ref a1)])
  refine own_newP X33 hx hZ (own_w hw 14 rfl) e33 (hb hby d1_51) 3 3 (by decide) (by decide) (by decide) (by decide) (by decide) ?_
  intro T36 h36 b36 X36 e36 g36 E36 A36
  have E_a1_37 : Exa Z h33 a1 "com/example/wayfold/wayfold/engine/DayTiming$Timeline" := (Exa.wr W33 E_a1_35)
  have lt_a1_b36 : a1 < b36 := Nat.lt_of_lt_of_le E_a1_37.lt (Nat.le_of_eq g36.symm)
  have V2_38 : own_Arr Z h33 b2 .int [(.int (0 : Int32)), (.int (0 : Int32))] := (own_Arr.other (own_Arr.ext V2_29 E27) W33 (Ne.symm (Nat.ne_of_lt lt_a1_b2)))
  have lt_b2_b36 : b2 < b36 := Nat.lt_of_lt_of_le V2_38.lt (Nat.le_of_eq g36.symm)
  have V6_39 : own_Arr Z h33 b6 .double [(defaultValue .double), (defaultValue .double), (defaultValue .double)] := (own_Arr.other (own_Arr.ext V6_30 E27) W33 (Ne.symm (Nat.ne_of_lt lt_a1_b6)))
  have lt_b6_b36 : b6 < b36 := Nat.lt_of_lt_of_le V6_39.lt (Nat.le_of_eq g36.symm)
  have V12_40 : own_Arr Z h33 b12 .double [(defaultValue .double), (defaultValue .double), (defaultValue .double)] := (own_Arr.other (own_Arr.ext V12_31 E27) W33 (Ne.symm (Nat.ne_of_lt lt_a1_b12)))
  have lt_b12_b36 : b12 < b36 := Nat.lt_of_lt_of_le V12_40.lt (Nat.le_of_eq g36.symm)
  have V19_41 : own_Arr Z h33 b19 .double [(defaultValue .double), (defaultValue .double), (defaultValue .double)] := (own_Arr.other (own_Arr.ext V19_32 E27) W33 (Ne.symm (Nat.ne_of_lt lt_a1_b19)))
  have lt_b19_b36 : b19 < b36 := Nat.lt_of_lt_of_le V19_41.lt (Nat.le_of_eq g36.symm)
  have V27_42 : own_Arr Z h33 b27 .double [(defaultValue .double), (defaultValue .double), (defaultValue .double)] := (own_Arr.other V27_0 W33 (Ne.symm (Nat.ne_of_lt lt_a1_b27)))
  have lt_b27_b36 : b27 < b36 := Nat.lt_of_lt_of_le V27_42.lt (Nat.le_of_eq g36.symm)
  have g_b36 : n0 ≤ b36 := Nat.le_trans sz33 (Nat.le_of_eq g36.symm)
  have sz36 : n0 ≤ h36.size := Nat.le_trans sz33 E36.1
  have szk_b36 : h0.size ≤ b36 := Nat.le_trans K33.1 (Nat.le_of_eq g36.symm)
  have K36 : Keep h0 h36 [a1] := K33.ext E36
  have V36_0 : own_Arr Z h36 b36 .double [(defaultValue .double), (defaultValue .double), (defaultValue .double)] := A36
  show own_Go p e below _ T36 (mkF m 53 #[.val (.ref a1), .val (.int (2 : Int32))] [(.ref b36), (.ref a1)])
  have F_waiting_44 : Fld Z h36 a1 "com/example/wayfold/wayfold/engine/DayTiming$Timeline" "waiting" "[D" .null := (Fld.ext E36 (Fld.other W33 (Fld.ext E27 (Fld.other W24 (Fld.ext E19 (Fld.other W16 (Fld.ext E12 (Fld.other W9 (Fld.ext E6 (Fld.other W3 (Fld.ext E2 F_waiting) (Or.inr (slot_ne (Or.inr (own_w hw 24 rfl)) (Or.inr (own_w hw 13 rfl)) (by decide) (t := (.array .double)) (t' := (.array .int)) (by decide) (by decide))))) (Or.inr (slot_ne (Or.inr (own_w hw 24 rfl)) (Or.inr (own_w hw 16 rfl)) (by decide) (t := (.array .double)) (t' := (.array .double)) (by decide) (by decide))))) (Or.inr (slot_ne (Or.inr (own_w hw 24 rfl)) (Or.inr (own_w hw 18 rfl)) (by decide) (t := (.array .double)) (t' := (.array .double)) (by decide) (by decide))))) (Or.inr (slot_ne (Or.inr (own_w hw 24 rfl)) (Or.inr (own_w hw 20 rfl)) (by decide) (t := (.array .double)) (t' := (.array .double)) (by decide) (by decide))))) (Or.inr (slot_ne (Or.inr (own_w hw 24 rfl)) (Or.inr (own_w hw 22 rfl)) (by decide) (t := (.array .double)) (t' := (.array .double)) (by decide) (by decide)))))
  have E_a1_45 : Exa Z h36 a1 "com/example/wayfold/wayfold/engine/DayTiming$Timeline" := (Exa.ext E36 E_a1_37)
  refine own_putF X36 hx hZ hown (own_w hw 23 rfl) Via.refl e36 F_waiting_44 E_a1_45 (Or.inr ⟨(own_w hw 24 rfl), rfl, hnm⟩) (own_w hw 3 rfl) (ty := (.array .double)) (by decide) rfl rfl (hb hby d1_53) ?_
  intro T43 h43 X43 e43 W43
  have F43 := Fld.same W43 F_waiting_44
  have N43 := Fr.snoc X43 N33 g_a1
  have sz43 : n0 ≤ h43.size := Nat.le_trans sz36 (Keep.of_wr W43).1
  have K43 : Keep h0 h43 [a1] := K36.wr W43 (Or.inl (List.mem_cons_self ..))
  show own_Go p e below _ T43 (mkF m 56 #[.val (.ref a1), .val (.int (2 : Int32))] [])
  refine own_by (fun t_ k_ => XS.aloadN X43.here hx rfl (hb hby d1_56) rfl rfl k_) ?_
  show own_Go p e below _ T43 (mkF m 57 #[.val (.ref a1), .val (.int (2 : Int32))] [(.ref a1)])
  refine own_by (fun t_ k_ => XS.iloadN X43.here hx rfl (hb hby d1_57) rfl k_) ?_
  show own_Go p e below _ T43 (mkF m 58 #[.val (.ref a1), .val (.int (2 : Int32))] [(.int (2 : Int32)), (.ref a1)])
  refine own_by (fun t_ k_ => XS.iconst X43.here hx rfl (hb hby d1_58) k_) ?_
  show own_Go p e below _ T43 (mkF m 59 #[.val (.ref a1), .val (.int (2 : Int32))] [(.int (1 : Int32)), (.int (2 : Int32)), (.ref a1)])
  refine own_by (fun t_ k_ => XS.iadd X43.here hx rfl (hb hby d1_59) rfl k_) ?_
  show own_Go p e below _ T43 (mkF m 60 #[.val (.ref a1), .val (.int (2 : Int32))] [(.int (3 : Int32)), (.ref a1)])
  refine own_newP X43 hx hZ (own_w hw 14 rfl) e43 (hb hby d1_60) 3 3 (by decide) (by decide) (by decide) (by decide) (by decide) ?_
  intro T46 h46 b46 X46 e46 g46 E46 A46
  have E_a1_47 : Exa Z h43 a1 "com/example/wayfold/wayfold/engine/DayTiming$Timeline" := (Exa.wr W43 E_a1_45)
  have lt_a1_b46 : a1 < b46 := Nat.lt_of_lt_of_le E_a1_47.lt (Nat.le_of_eq g46.symm)
  have V2_48 : own_Arr Z h43 b2 .int [(.int (0 : Int32)), (.int (0 : Int32))] := (own_Arr.other (own_Arr.ext V2_38 E36) W43 (Ne.symm (Nat.ne_of_lt lt_a1_b2)))
  have lt_b2_b46 : b2 < b46 := Nat.lt_of_lt_of_le V2_48.lt (Nat.le_of_eq g46.symm)
  have V6_49 : own_Arr Z h43 b6 .double [(defaultValue .double), (defaultValue .double), (defaultValue .double)] := (own_Arr.other (own_Arr.ext V6_39 E36) W43 (Ne.symm (Nat.ne_of_lt lt_a1_b6)))
  have lt_b6_b46 : b6 < b46 := Nat.lt_of_lt_of_le V6_49.lt (Nat.le_of_eq g46.symm)
  have V12_50 : own_Arr Z h43 b12 .double [(defaultValue .double), (defaultValue .double), (defaultValue .double)] := (own_Arr.other (own_Arr.ext V12_40 E36) W43 (Ne.symm (Nat.ne_of_lt lt_a1_b12)))
  have lt_b12_b46 : b12 < b46 := Nat.lt_of_lt_of_le V12_50.lt (Nat.le_of_eq g46.symm)
  have V19_51 : own_Arr Z h43 b19 .double [(defaultValue .double), (defaultValue .double), (defaultValue .double)] := (own_Arr.other (own_Arr.ext V19_41 E36) W43 (Ne.symm (Nat.ne_of_lt lt_a1_b19)))
  have lt_b19_b46 : b19 < b46 := Nat.lt_of_lt_of_le V19_51.lt (Nat.le_of_eq g46.symm)
  have V27_52 : own_Arr Z h43 b27 .double [(defaultValue .double), (defaultValue .double), (defaultValue .double)] := (own_Arr.other (own_Arr.ext V27_42 E36) W43 (Ne.symm (Nat.ne_of_lt lt_a1_b27)))
  have lt_b27_b46 : b27 < b46 := Nat.lt_of_lt_of_le V27_52.lt (Nat.le_of_eq g46.symm)
  have V36_53 : own_Arr Z h43 b36 .double [(defaultValue .double), (defaultValue .double), (defaultValue .double)] := (own_Arr.other V36_0 W43 (Ne.symm (Nat.ne_of_lt lt_a1_b36)))
  have lt_b36_b46 : b36 < b46 := Nat.lt_of_lt_of_le V36_53.lt (Nat.le_of_eq g46.symm)
  have g_b46 : n0 ≤ b46 := Nat.le_trans sz43 (Nat.le_of_eq g46.symm)
  have sz46 : n0 ≤ h46.size := Nat.le_trans sz43 E46.1
  have szk_b46 : h0.size ≤ b46 := Nat.le_trans K43.1 (Nat.le_of_eq g46.symm)
  have K46 : Keep h0 h46 [a1] := K43.ext E46
  have V46_0 : own_Arr Z h46 b46 .double [(defaultValue .double), (defaultValue .double), (defaultValue .double)] := A46
  show own_Go p e below _ T46 (mkF m 62 #[.val (.ref a1), .val (.int (2 : Int32))] [(.ref b46), (.ref a1)])
  have F_load_55 : Fld Z h46 a1 "com/example/wayfold/wayfold/engine/DayTiming$Timeline" "load" "[D" .null := (Fld.ext E46 (Fld.other W43 (Fld.ext E36 (Fld.other W33 (Fld.ext E27 (Fld.other W24 (Fld.ext E19 (Fld.other W16 (Fld.ext E12 (Fld.other W9 (Fld.ext E6 (Fld.other W3 (Fld.ext E2 F_load) (Or.inr (slot_ne (Or.inr (own_w hw 26 rfl)) (Or.inr (own_w hw 13 rfl)) (by decide) (t := (.array .double)) (t' := (.array .int)) (by decide) (by decide))))) (Or.inr (slot_ne (Or.inr (own_w hw 26 rfl)) (Or.inr (own_w hw 16 rfl)) (by decide) (t := (.array .double)) (t' := (.array .double)) (by decide) (by decide))))) (Or.inr (slot_ne (Or.inr (own_w hw 26 rfl)) (Or.inr (own_w hw 18 rfl)) (by decide) (t := (.array .double)) (t' := (.array .double)) (by decide) (by decide))))) (Or.inr (slot_ne (Or.inr (own_w hw 26 rfl)) (Or.inr (own_w hw 20 rfl)) (by decide) (t := (.array .double)) (t' := (.array .double)) (by decide) (by decide))))) (Or.inr (slot_ne (Or.inr (own_w hw 26 rfl)) (Or.inr (own_w hw 22 rfl)) (by decide) (t := (.array .double)) (t' := (.array .double)) (by decide) (by decide))))) (Or.inr (slot_ne (Or.inr (own_w hw 26 rfl)) (Or.inr (own_w hw 24 rfl)) (by decide) (t := (.array .double)) (t' := (.array .double)) (by decide) (by decide)))))
  have E_a1_56 : Exa Z h46 a1 "com/example/wayfold/wayfold/engine/DayTiming$Timeline" := (Exa.ext E46 E_a1_47)
  refine own_putF X46 hx hZ hown (own_w hw 25 rfl) Via.refl e46 F_load_55 E_a1_56 (Or.inr ⟨(own_w hw 26 rfl), rfl, hnm⟩) (own_w hw 3 rfl) (ty := (.array .double)) (by decide) rfl rfl (hb hby d1_62) ?_
  intro T54 h54 X54 e54 W54
  have F54 := Fld.same W54 F_load_55
  have N54 := Fr.snoc X54 N43 g_a1
  have sz54 : n0 ≤ h54.size := Nat.le_trans sz46 (Keep.of_wr W54).1
  have K54 : Keep h0 h54 [a1] := K46.wr W54 (Or.inl (List.mem_cons_self ..))
  show own_Go p e below _ T54 (mkF m 65 #[.val (.ref a1), .val (.int (2 : Int32))] [])
  refine own_by (fun t_ k_ => XS.aloadN X54.here hx rfl (hb hby d1_65) rfl rfl k_) ?_
  show own_Go p e below _ T54 (mkF m 66 #[.val (.ref a1), .val (.int (2 : Int32))] [(.ref a1)])
  refine own_by (fun t_ k_ => XS.iloadN X54.here hx rfl (hb hby d1_66) rfl k_) ?_
  show own_Go p e below _ T54 (mkF m 67 #[.val (.ref a1), .val (.int (2 : Int32))] [(.int (2 : Int32)), (.ref a1)])
  refine own_by (fun t_ k_ => XS.iconst X54.here hx rfl (hb hby d1_67) k_) ?_
  show own_Go p e below _ T54 (mkF m 68 #[.val (.ref a1), .val (.int (2 : Int32))] [(.int (1 : Int32)), (.int (2 : Int32)), (.ref a1)])
  refine own_by (fun t_ k_ => XS.iadd X54.here hx rfl (hb hby d1_68) rfl k_) ?_
  show own_Go p e below _ T54 (mkF m 69 #[.val (.ref a1), .val (.int (2 : Int32))] [(.int (3 : Int32)), (.ref a1)])
  refine own_newP X54 hx hZ (own_w hw 14 rfl) e54 (hb hby d1_69) 3 3 (by decide) (by decide) (by decide) (by decide) (by decide) ?_
  intro T57 h57 b57 X57 e57 g57 E57 A57
  have E_a1_58 : Exa Z h54 a1 "com/example/wayfold/wayfold/engine/DayTiming$Timeline" := (Exa.wr W54 E_a1_56)
  have lt_a1_b57 : a1 < b57 := Nat.lt_of_lt_of_le E_a1_58.lt (Nat.le_of_eq g57.symm)
  have V2_59 : own_Arr Z h54 b2 .int [(.int (0 : Int32)), (.int (0 : Int32))] := (own_Arr.other (own_Arr.ext V2_48 E46) W54 (Ne.symm (Nat.ne_of_lt lt_a1_b2)))
  have lt_b2_b57 : b2 < b57 := Nat.lt_of_lt_of_le V2_59.lt (Nat.le_of_eq g57.symm)
  have V6_60 : own_Arr Z h54 b6 .double [(defaultValue .double), (defaultValue .double), (defaultValue .double)] := (own_Arr.other (own_Arr.ext V6_49 E46) W54 (Ne.symm (Nat.ne_of_lt lt_a1_b6)))
  have lt_b6_b57 : b6 < b57 := Nat.lt_of_lt_of_le V6_60.lt (Nat.le_of_eq g57.symm)
  have V12_61 : own_Arr Z h54 b12 .double [(defaultValue .double), (defaultValue .double), (defaultValue .double)] := (own_Arr.other (own_Arr.ext V12_50 E46) W54 (Ne.symm (Nat.ne_of_lt lt_a1_b12)))
  have lt_b12_b57 : b12 < b57 := Nat.lt_of_lt_of_le V12_61.lt (Nat.le_of_eq g57.symm)
  have V19_62 : own_Arr Z h54 b19 .double [(defaultValue .double), (defaultValue .double), (defaultValue .double)] := (own_Arr.other (own_Arr.ext V19_51 E46) W54 (Ne.symm (Nat.ne_of_lt lt_a1_b19)))
  have lt_b19_b57 : b19 < b57 := Nat.lt_of_lt_of_le V19_62.lt (Nat.le_of_eq g57.symm)
  have V27_63 : own_Arr Z h54 b27 .double [(defaultValue .double), (defaultValue .double), (defaultValue .double)] := (own_Arr.other (own_Arr.ext V27_52 E46) W54 (Ne.symm (Nat.ne_of_lt lt_a1_b27)))
  have lt_b27_b57 : b27 < b57 := Nat.lt_of_lt_of_le V27_63.lt (Nat.le_of_eq g57.symm)
  have V36_64 : own_Arr Z h54 b36 .double [(defaultValue .double), (defaultValue .double), (defaultValue .double)] := (own_Arr.other (own_Arr.ext V36_53 E46) W54 (Ne.symm (Nat.ne_of_lt lt_a1_b36)))
  have lt_b36_b57 : b36 < b57 := Nat.lt_of_lt_of_le V36_64.lt (Nat.le_of_eq g57.symm)
  have V46_65 : own_Arr Z h54 b46 .double [(defaultValue .double), (defaultValue .double), (defaultValue .double)] := (own_Arr.other V46_0 W54 (Ne.symm (Nat.ne_of_lt lt_a1_b46)))
  have lt_b46_b57 : b46 < b57 := Nat.lt_of_lt_of_le V46_65.lt (Nat.le_of_eq g57.symm)
  have g_b57 : n0 ≤ b57 := Nat.le_trans sz54 (Nat.le_of_eq g57.symm)
  have sz57 : n0 ≤ h57.size := Nat.le_trans sz54 E57.1
  have szk_b57 : h0.size ≤ b57 := Nat.le_trans K54.1 (Nat.le_of_eq g57.symm)
  have K57 : Keep h0 h57 [a1] := K54.ext E57
  have V57_0 : own_Arr Z h57 b57 .double [(defaultValue .double), (defaultValue .double), (defaultValue .double)] := A57
  show own_Go p e below _ T57 (mkF m 71 #[.val (.ref a1), .val (.int (2 : Int32))] [(.ref b57), (.ref a1)])
  have F_latest_67 : Fld Z h57 a1 "com/example/wayfold/wayfold/engine/DayTiming$Timeline" "latest" "[D" .null := (Fld.ext E57 (Fld.other W54 (Fld.ext E46 (Fld.other W43 (Fld.ext E36 (Fld.other W33 (Fld.ext E27 (Fld.other W24 (Fld.ext E19 (Fld.other W16 (Fld.ext E12 (Fld.other W9 (Fld.ext E6 (Fld.other W3 (Fld.ext E2 F_latest) (Or.inr (slot_ne (Or.inr (own_w hw 28 rfl)) (Or.inr (own_w hw 13 rfl)) (by decide) (t := (.array .double)) (t' := (.array .int)) (by decide) (by decide))))) (Or.inr (slot_ne (Or.inr (own_w hw 28 rfl)) (Or.inr (own_w hw 16 rfl)) (by decide) (t := (.array .double)) (t' := (.array .double)) (by decide) (by decide))))) (Or.inr (slot_ne (Or.inr (own_w hw 28 rfl)) (Or.inr (own_w hw 18 rfl)) (by decide) (t := (.array .double)) (t' := (.array .double)) (by decide) (by decide))))) (Or.inr (slot_ne (Or.inr (own_w hw 28 rfl)) (Or.inr (own_w hw 20 rfl)) (by decide) (t := (.array .double)) (t' := (.array .double)) (by decide) (by decide))))) (Or.inr (slot_ne (Or.inr (own_w hw 28 rfl)) (Or.inr (own_w hw 22 rfl)) (by decide) (t := (.array .double)) (t' := (.array .double)) (by decide) (by decide))))) (Or.inr (slot_ne (Or.inr (own_w hw 28 rfl)) (Or.inr (own_w hw 24 rfl)) (by decide) (t := (.array .double)) (t' := (.array .double)) (by decide) (by decide))))) (Or.inr (slot_ne (Or.inr (own_w hw 28 rfl)) (Or.inr (own_w hw 26 rfl)) (by decide) (t := (.array .double)) (t' := (.array .double)) (by decide) (by decide)))))
  have E_a1_68 : Exa Z h57 a1 "com/example/wayfold/wayfold/engine/DayTiming$Timeline" := (Exa.ext E57 E_a1_58)
  refine own_putF X57 hx hZ hown (own_w hw 27 rfl) Via.refl e57 F_latest_67 E_a1_68 (Or.inr ⟨(own_w hw 28 rfl), rfl, hnm⟩) (own_w hw 3 rfl) (ty := (.array .double)) (by decide) rfl rfl (hb hby d1_71) ?_
  intro T66 h66 X66 e66 W66
  have F66 := Fld.same W66 F_latest_67
  have N66 := Fr.snoc X66 N54 g_a1
  have sz66 : n0 ≤ h66.size := Nat.le_trans sz57 (Keep.of_wr W66).1
  have K66 : Keep h0 h66 [a1] := K57.wr W66 (Or.inl (List.mem_cons_self ..))
  show own_Go p e below _ T66 (mkF m 74 #[.val (.ref a1), .val (.int (2 : Int32))] [])
  refine own_by (fun t_ k_ => XS.aloadN X66.here hx rfl (hb hby d1_74) rfl rfl k_) ?_
  show own_Go p e below _ T66 (mkF m 75 #[.val (.ref a1), .val (.int (2 : Int32))] [(.ref a1)])
  refine own_by (fun t_ k_ => XS.iloadN X66.here hx rfl (hb hby d1_75) rfl k_) ?_
  show own_Go p e below _ T66 (mkF m 76 #[.val (.ref a1), .val (.int (2 : Int32))] [(.int (2 : Int32)), (.ref a1)])
  refine own_by (fun t_ k_ => XS.iconst X66.here hx rfl (hb hby d1_76) k_) ?_
  show own_Go p e below _ T66 (mkF m 77 #[.val (.ref a1), .val (.int (2 : Int32))] [(.int (1 : Int32)), (.int (2 : Int32)), (.ref a1)])
  refine own_by (fun t_ k_ => XS.iadd X66.here hx rfl (hb hby d1_77) rfl k_) ?_
  show own_Go p e below _ T66 (mkF m 78 #[.val (.ref a1), .val (.int (2 : Int32))] [(.int (3 : Int32)), (.ref a1)])
  refine own_newP X66 hx hZ (own_w hw 14 rfl) e66 (hb hby d1_78) 3 3 (by decide) (by decide) (by decide) (by decide) (by decide) ?_
  intro T69 h69 b69 X69 e69 g69 E69 A69
  have E_a1_70 : Exa Z h66 a1 "com/example/wayfold/wayfold/engine/DayTiming$Timeline" := (Exa.wr W66 E_a1_68)
  have lt_a1_b69 : a1 < b69 := Nat.lt_of_lt_of_le E_a1_70.lt (Nat.le_of_eq g69.symm)
  have V2_71 : own_Arr Z h66 b2 .int [(.int (0 : Int32)), (.int (0 : Int32))] := (own_Arr.other (own_Arr.ext V2_59 E57) W66 (Ne.symm (Nat.ne_of_lt lt_a1_b2)))
  have lt_b2_b69 : b2 < b69 := Nat.lt_of_lt_of_le V2_71.lt (Nat.le_of_eq g69.symm)
  have V6_72 : own_Arr Z h66 b6 .double [(defaultValue .double), (defaultValue .double), (defaultValue .double)] := (own_Arr.other (own_Arr.ext V6_60 E57) W66 (Ne.symm (Nat.ne_of_lt lt_a1_b6)))
  have lt_b6_b69 : b6 < b69 := Nat.lt_of_lt_of_le V6_72.lt (Nat.le_of_eq g69.symm)
  have V12_73 : own_Arr Z h66 b12 .double [(defaultValue .double), (defaultValue .double), (defaultValue .double)] := (own_Arr.other (own_Arr.ext V12_61 E57) W66 (Ne.symm (Nat.ne_of_lt lt_a1_b12)))
  have lt_b12_b69 : b12 < b69 := Nat.lt_of_lt_of_le V12_73.lt (Nat.le_of_eq g69.symm)
  have V19_74 : own_Arr Z h66 b19 .double [(defaultValue .double), (defaultValue .double), (defaultValue .double)] := (own_Arr.other (own_Arr.ext V19_62 E57) W66 (Ne.symm (Nat.ne_of_lt lt_a1_b19)))
  have lt_b19_b69 : b19 < b69 := Nat.lt_of_lt_of_le V19_74.lt (Nat.le_of_eq g69.symm)
  have V27_75 : own_Arr Z h66 b27 .double [(defaultValue .double), (defaultValue .double), (defaultValue .double)] := (own_Arr.other (own_Arr.ext V27_63 E57) W66 (Ne.symm (Nat.ne_of_lt lt_a1_b27)))
  have lt_b27_b69 : b27 < b69 := Nat.lt_of_lt_of_le V27_75.lt (Nat.le_of_eq g69.symm)
  have V36_76 : own_Arr Z h66 b36 .double [(defaultValue .double), (defaultValue .double), (defaultValue .double)] := (own_Arr.other (own_Arr.ext V36_64 E57) W66 (Ne.symm (Nat.ne_of_lt lt_a1_b36)))
  have lt_b36_b69 : b36 < b69 := Nat.lt_of_lt_of_le V36_76.lt (Nat.le_of_eq g69.symm)
  have V46_77 : own_Arr Z h66 b46 .double [(defaultValue .double), (defaultValue .double), (defaultValue .double)] := (own_Arr.other (own_Arr.ext V46_65 E57) W66 (Ne.symm (Nat.ne_of_lt lt_a1_b46)))
  have lt_b46_b69 : b46 < b69 := Nat.lt_of_lt_of_le V46_77.lt (Nat.le_of_eq g69.symm)
  have V57_78 : own_Arr Z h66 b57 .double [(defaultValue .double), (defaultValue .double), (defaultValue .double)] := (own_Arr.other V57_0 W66 (Ne.symm (Nat.ne_of_lt lt_a1_b57)))
  have lt_b57_b69 : b57 < b69 := Nat.lt_of_lt_of_le V57_78.lt (Nat.le_of_eq g69.symm)
  have g_b69 : n0 ≤ b69 := Nat.le_trans sz66 (Nat.le_of_eq g69.symm)
  have sz69 : n0 ≤ h69.size := Nat.le_trans sz66 E69.1
  have szk_b69 : h0.size ≤ b69 := Nat.le_trans K66.1 (Nat.le_of_eq g69.symm)
  have K69 : Keep h0 h69 [a1] := K66.ext E69
  have V69_0 : own_Arr Z h69 b69 .double [(defaultValue .double), (defaultValue .double), (defaultValue .double)] := A69
  show own_Go p e below _ T69 (mkF m 80 #[.val (.ref a1), .val (.int (2 : Int32))] [(.ref b69), (.ref a1)])
  have F_best_80 : Fld Z h69 a1 "com/example/wayfold/wayfold/engine/DayTiming$Timeline" "best" "[D" .null := (Fld.ext E69 (Fld.other W66 (Fld.ext E57 (Fld.other W54 (Fld.ext E46 (Fld.other W43 (Fld.ext E36 (Fld.other W33 (Fld.ext E27 (Fld.other W24 (Fld.ext E19 (Fld.other W16 (Fld.ext E12 (Fld.other W9 (Fld.ext E6 (Fld.other W3 (Fld.ext E2 F_best) (Or.inr (slot_ne (Or.inr (own_w hw 30 rfl)) (Or.inr (own_w hw 13 rfl)) (by decide) (t := (.array .double)) (t' := (.array .int)) (by decide) (by decide))))) (Or.inr (slot_ne (Or.inr (own_w hw 30 rfl)) (Or.inr (own_w hw 16 rfl)) (by decide) (t := (.array .double)) (t' := (.array .double)) (by decide) (by decide))))) (Or.inr (slot_ne (Or.inr (own_w hw 30 rfl)) (Or.inr (own_w hw 18 rfl)) (by decide) (t := (.array .double)) (t' := (.array .double)) (by decide) (by decide))))) (Or.inr (slot_ne (Or.inr (own_w hw 30 rfl)) (Or.inr (own_w hw 20 rfl)) (by decide) (t := (.array .double)) (t' := (.array .double)) (by decide) (by decide))))) (Or.inr (slot_ne (Or.inr (own_w hw 30 rfl)) (Or.inr (own_w hw 22 rfl)) (by decide) (t := (.array .double)) (t' := (.array .double)) (by decide) (by decide))))) (Or.inr (slot_ne (Or.inr (own_w hw 30 rfl)) (Or.inr (own_w hw 24 rfl)) (by decide) (t := (.array .double)) (t' := (.array .double)) (by decide) (by decide))))) (Or.inr (slot_ne (Or.inr (own_w hw 30 rfl)) (Or.inr (own_w hw 26 rfl)) (by decide) (t := (.array .double)) (t' := (.array .double)) (by decide) (by decide))))) (Or.inr (slot_ne (Or.inr (own_w hw 30 rfl)) (Or.inr (own_w hw 28 rfl)) (by decide) (t := (.array .double)) (t' := (.array .double)) (by decide) (by decide)))))
  have E_a1_81 : Exa Z h69 a1 "com/example/wayfold/wayfold/engine/DayTiming$Timeline" := (Exa.ext E69 E_a1_70)
  refine own_putF X69 hx hZ hown (own_w hw 29 rfl) Via.refl e69 F_best_80 E_a1_81 (Or.inr ⟨(own_w hw 30 rfl), rfl, hnm⟩) (own_w hw 3 rfl) (ty := (.array .double)) (by decide) rfl rfl (hb hby d1_80) ?_
  intro T79 h79 X79 e79 W79
  have F79 := Fld.same W79 F_best_80
  have N79 := Fr.snoc X79 N66 g_a1
  have sz79 : n0 ≤ h79.size := Nat.le_trans sz69 (Keep.of_wr W79).1
  have K79 : Keep h0 h79 [a1] := K69.wr W79 (Or.inl (List.mem_cons_self ..))
  show own_Go p e below _ T79 (mkF m 83 #[.val (.ref a1), .val (.int (2 : Int32))] [])
  refine own_retV X79 hx hlk Bd.returns (hb hby d1_83) e79 (by decide) (by decide) ?_
  have E_a1_82 : Exa Z h79 a1 "com/example/wayfold/wayfold/engine/DayTiming$Timeline" := (Exa.wr W79 E_a1_81)
  have F_length_83 : Fld Z h79 a1 "com/example/wayfold/wayfold/engine/DayTiming$Timeline" "length" "I" (.int (0 : Int32)) := (Fld.other W79 (Fld.ext E69 (Fld.other W66 (Fld.ext E57 (Fld.other W54 (Fld.ext E46 (Fld.other W43 (Fld.ext E36 (Fld.other W33 (Fld.ext E27 (Fld.other W24 (Fld.ext E19 (Fld.other W16 (Fld.ext E12 (Fld.other W9 (Fld.ext E6 (Fld.other W3 (Fld.ext E2 F_length) (Or.inr (slot_ne (Or.inl (own_w hw 32 rfl)) (Or.inr (own_w hw 13 rfl)) (by decide) (t := .int) (t' := (.array .int)) (by decide) (by decide))))) (Or.inr (slot_ne (Or.inl (own_w hw 32 rfl)) (Or.inr (own_w hw 16 rfl)) (by decide) (t := .int) (t' := (.array .double)) (by decide) (by decide))))) (Or.inr (slot_ne (Or.inl (own_w hw 32 rfl)) (Or.inr (own_w hw 18 rfl)) (by decide) (t := .int) (t' := (.array .double)) (by decide) (by decide))))) (Or.inr (slot_ne (Or.inl (own_w hw 32 rfl)) (Or.inr (own_w hw 20 rfl)) (by decide) (t := .int) (t' := (.array .double)) (by decide) (by decide))))) (Or.inr (slot_ne (Or.inl (own_w hw 32 rfl)) (Or.inr (own_w hw 22 rfl)) (by decide) (t := .int) (t' := (.array .double)) (by decide) (by decide))))) (Or.inr (slot_ne (Or.inl (own_w hw 32 rfl)) (Or.inr (own_w hw 24 rfl)) (by decide) (t := .int) (t' := (.array .double)) (by decide) (by decide))))) (Or.inr (slot_ne (Or.inl (own_w hw 32 rfl)) (Or.inr (own_w hw 26 rfl)) (by decide) (t := .int) (t' := (.array .double)) (by decide) (by decide))))) (Or.inr (slot_ne (Or.inl (own_w hw 32 rfl)) (Or.inr (own_w hw 28 rfl)) (by decide) (t := .int) (t' := (.array .double)) (by decide) (by decide))))) (Or.inr (slot_ne (Or.inl (own_w hw 32 rfl)) (Or.inr (own_w hw 30 rfl)) (by decide) (t := .int) (t' := (.array .double)) (by decide) (by decide))))
  have F3_84 : Fld Z h79 a1 "com/example/wayfold/wayfold/engine/DayTiming$Timeline" "nodes" "[I" (.ref b2) := (Fld.other W79 (Fld.ext E69 (Fld.other W66 (Fld.ext E57 (Fld.other W54 (Fld.ext E46 (Fld.other W43 (Fld.ext E36 (Fld.other W33 (Fld.ext E27 (Fld.other W24 (Fld.ext E19 (Fld.other W16 (Fld.ext E12 (Fld.other W9 (Fld.ext E6 F3) (Or.inr (slot_ne (Or.inr (own_w hw 13 rfl)) (Or.inr (own_w hw 16 rfl)) (by decide) (t := (.array .int)) (t' := (.array .double)) (by decide) (by decide))))) (Or.inr (slot_ne (Or.inr (own_w hw 13 rfl)) (Or.inr (own_w hw 18 rfl)) (by decide) (t := (.array .int)) (t' := (.array .double)) (by decide) (by decide))))) (Or.inr (slot_ne (Or.inr (own_w hw 13 rfl)) (Or.inr (own_w hw 20 rfl)) (by decide) (t := (.array .int)) (t' := (.array .double)) (by decide) (by decide))))) (Or.inr (slot_ne (Or.inr (own_w hw 13 rfl)) (Or.inr (own_w hw 22 rfl)) (by decide) (t := (.array .int)) (t' := (.array .double)) (by decide) (by decide))))) (Or.inr (slot_ne (Or.inr (own_w hw 13 rfl)) (Or.inr (own_w hw 24 rfl)) (by decide) (t := (.array .int)) (t' := (.array .double)) (by decide) (by decide))))) (Or.inr (slot_ne (Or.inr (own_w hw 13 rfl)) (Or.inr (own_w hw 26 rfl)) (by decide) (t := (.array .int)) (t' := (.array .double)) (by decide) (by decide))))) (Or.inr (slot_ne (Or.inr (own_w hw 13 rfl)) (Or.inr (own_w hw 28 rfl)) (by decide) (t := (.array .int)) (t' := (.array .double)) (by decide) (by decide))))) (Or.inr (slot_ne (Or.inr (own_w hw 13 rfl)) (Or.inr (own_w hw 30 rfl)) (by decide) (t := (.array .int)) (t' := (.array .double)) (by decide) (by decide))))
  have F9_85 : Fld Z h79 a1 "com/example/wayfold/wayfold/engine/DayTiming$Timeline" "leave" "[D" (.ref b6) := (Fld.other W79 (Fld.ext E69 (Fld.other W66 (Fld.ext E57 (Fld.other W54 (Fld.ext E46 (Fld.other W43 (Fld.ext E36 (Fld.other W33 (Fld.ext E27 (Fld.other W24 (Fld.ext E19 (Fld.other W16 (Fld.ext E12 F9) (Or.inr (slot_ne (Or.inr (own_w hw 16 rfl)) (Or.inr (own_w hw 18 rfl)) (by decide) (t := (.array .double)) (t' := (.array .double)) (by decide) (by decide))))) (Or.inr (slot_ne (Or.inr (own_w hw 16 rfl)) (Or.inr (own_w hw 20 rfl)) (by decide) (t := (.array .double)) (t' := (.array .double)) (by decide) (by decide))))) (Or.inr (slot_ne (Or.inr (own_w hw 16 rfl)) (Or.inr (own_w hw 22 rfl)) (by decide) (t := (.array .double)) (t' := (.array .double)) (by decide) (by decide))))) (Or.inr (slot_ne (Or.inr (own_w hw 16 rfl)) (Or.inr (own_w hw 24 rfl)) (by decide) (t := (.array .double)) (t' := (.array .double)) (by decide) (by decide))))) (Or.inr (slot_ne (Or.inr (own_w hw 16 rfl)) (Or.inr (own_w hw 26 rfl)) (by decide) (t := (.array .double)) (t' := (.array .double)) (by decide) (by decide))))) (Or.inr (slot_ne (Or.inr (own_w hw 16 rfl)) (Or.inr (own_w hw 28 rfl)) (by decide) (t := (.array .double)) (t' := (.array .double)) (by decide) (by decide))))) (Or.inr (slot_ne (Or.inr (own_w hw 16 rfl)) (Or.inr (own_w hw 30 rfl)) (by decide) (t := (.array .double)) (t' := (.array .double)) (by decide) (by decide))))
  have F16_86 : Fld Z h79 a1 "com/example/wayfold/wayfold/engine/DayTiming$Timeline" "interest" "[D" (.ref b12) := (Fld.other W79 (Fld.ext E69 (Fld.other W66 (Fld.ext E57 (Fld.other W54 (Fld.ext E46 (Fld.other W43 (Fld.ext E36 (Fld.other W33 (Fld.ext E27 (Fld.other W24 (Fld.ext E19 F16) (Or.inr (slot_ne (Or.inr (own_w hw 18 rfl)) (Or.inr (own_w hw 20 rfl)) (by decide) (t := (.array .double)) (t' := (.array .double)) (by decide) (by decide))))) (Or.inr (slot_ne (Or.inr (own_w hw 18 rfl)) (Or.inr (own_w hw 22 rfl)) (by decide) (t := (.array .double)) (t' := (.array .double)) (by decide) (by decide))))) (Or.inr (slot_ne (Or.inr (own_w hw 18 rfl)) (Or.inr (own_w hw 24 rfl)) (by decide) (t := (.array .double)) (t' := (.array .double)) (by decide) (by decide))))) (Or.inr (slot_ne (Or.inr (own_w hw 18 rfl)) (Or.inr (own_w hw 26 rfl)) (by decide) (t := (.array .double)) (t' := (.array .double)) (by decide) (by decide))))) (Or.inr (slot_ne (Or.inr (own_w hw 18 rfl)) (Or.inr (own_w hw 28 rfl)) (by decide) (t := (.array .double)) (t' := (.array .double)) (by decide) (by decide))))) (Or.inr (slot_ne (Or.inr (own_w hw 18 rfl)) (Or.inr (own_w hw 30 rfl)) (by decide) (t := (.array .double)) (t' := (.array .double)) (by decide) (by decide))))
  have F24_87 : Fld Z h79 a1 "com/example/wayfold/wayfold/engine/DayTiming$Timeline" "travel" "[D" (.ref b19) := (Fld.other W79 (Fld.ext E69 (Fld.other W66 (Fld.ext E57 (Fld.other W54 (Fld.ext E46 (Fld.other W43 (Fld.ext E36 (Fld.other W33 (Fld.ext E27 F24) (Or.inr (slot_ne (Or.inr (own_w hw 20 rfl)) (Or.inr (own_w hw 22 rfl)) (by decide) (t := (.array .double)) (t' := (.array .double)) (by decide) (by decide))))) (Or.inr (slot_ne (Or.inr (own_w hw 20 rfl)) (Or.inr (own_w hw 24 rfl)) (by decide) (t := (.array .double)) (t' := (.array .double)) (by decide) (by decide))))) (Or.inr (slot_ne (Or.inr (own_w hw 20 rfl)) (Or.inr (own_w hw 26 rfl)) (by decide) (t := (.array .double)) (t' := (.array .double)) (by decide) (by decide))))) (Or.inr (slot_ne (Or.inr (own_w hw 20 rfl)) (Or.inr (own_w hw 28 rfl)) (by decide) (t := (.array .double)) (t' := (.array .double)) (by decide) (by decide))))) (Or.inr (slot_ne (Or.inr (own_w hw 20 rfl)) (Or.inr (own_w hw 30 rfl)) (by decide) (t := (.array .double)) (t' := (.array .double)) (by decide) (by decide))))
  have F33_88 : Fld Z h79 a1 "com/example/wayfold/wayfold/engine/DayTiming$Timeline" "visit" "[D" (.ref b27) := (Fld.other W79 (Fld.ext E69 (Fld.other W66 (Fld.ext E57 (Fld.other W54 (Fld.ext E46 (Fld.other W43 (Fld.ext E36 F33) (Or.inr (slot_ne (Or.inr (own_w hw 22 rfl)) (Or.inr (own_w hw 24 rfl)) (by decide) (t := (.array .double)) (t' := (.array .double)) (by decide) (by decide))))) (Or.inr (slot_ne (Or.inr (own_w hw 22 rfl)) (Or.inr (own_w hw 26 rfl)) (by decide) (t := (.array .double)) (t' := (.array .double)) (by decide) (by decide))))) (Or.inr (slot_ne (Or.inr (own_w hw 22 rfl)) (Or.inr (own_w hw 28 rfl)) (by decide) (t := (.array .double)) (t' := (.array .double)) (by decide) (by decide))))) (Or.inr (slot_ne (Or.inr (own_w hw 22 rfl)) (Or.inr (own_w hw 30 rfl)) (by decide) (t := (.array .double)) (t' := (.array .double)) (by decide) (by decide))))
  have F43_89 : Fld Z h79 a1 "com/example/wayfold/wayfold/engine/DayTiming$Timeline" "waiting" "[D" (.ref b36) := (Fld.other W79 (Fld.ext E69 (Fld.other W66 (Fld.ext E57 (Fld.other W54 (Fld.ext E46 F43) (Or.inr (slot_ne (Or.inr (own_w hw 24 rfl)) (Or.inr (own_w hw 26 rfl)) (by decide) (t := (.array .double)) (t' := (.array .double)) (by decide) (by decide))))) (Or.inr (slot_ne (Or.inr (own_w hw 24 rfl)) (Or.inr (own_w hw 28 rfl)) (by decide) (t := (.array .double)) (t' := (.array .double)) (by decide) (by decide))))) (Or.inr (slot_ne (Or.inr (own_w hw 24 rfl)) (Or.inr (own_w hw 30 rfl)) (by decide) (t := (.array .double)) (t' := (.array .double)) (by decide) (by decide))))
  have F54_90 : Fld Z h79 a1 "com/example/wayfold/wayfold/engine/DayTiming$Timeline" "load" "[D" (.ref b46) := (Fld.other W79 (Fld.ext E69 (Fld.other W66 (Fld.ext E57 F54) (Or.inr (slot_ne (Or.inr (own_w hw 26 rfl)) (Or.inr (own_w hw 28 rfl)) (by decide) (t := (.array .double)) (t' := (.array .double)) (by decide) (by decide))))) (Or.inr (slot_ne (Or.inr (own_w hw 26 rfl)) (Or.inr (own_w hw 30 rfl)) (by decide) (t := (.array .double)) (t' := (.array .double)) (by decide) (by decide))))
  have F66_91 : Fld Z h79 a1 "com/example/wayfold/wayfold/engine/DayTiming$Timeline" "latest" "[D" (.ref b57) := (Fld.other W79 (Fld.ext E69 F66) (Or.inr (slot_ne (Or.inr (own_w hw 28 rfl)) (Or.inr (own_w hw 30 rfl)) (by decide) (t := (.array .double)) (t' := (.array .double)) (by decide) (by decide))))
  have V2_92 : own_Arr Z h79 b2 .int [(.int (0 : Int32)), (.int (0 : Int32))] := (own_Arr.other (own_Arr.ext V2_71 E69) W79 (Ne.symm (Nat.ne_of_lt lt_a1_b2)))
  have V6_93 : own_Arr Z h79 b6 .double [(defaultValue .double), (defaultValue .double), (defaultValue .double)] := (own_Arr.other (own_Arr.ext V6_72 E69) W79 (Ne.symm (Nat.ne_of_lt lt_a1_b6)))
  have V12_94 : own_Arr Z h79 b12 .double [(defaultValue .double), (defaultValue .double), (defaultValue .double)] := (own_Arr.other (own_Arr.ext V12_73 E69) W79 (Ne.symm (Nat.ne_of_lt lt_a1_b12)))
  have V19_95 : own_Arr Z h79 b19 .double [(defaultValue .double), (defaultValue .double), (defaultValue .double)] := (own_Arr.other (own_Arr.ext V19_74 E69) W79 (Ne.symm (Nat.ne_of_lt lt_a1_b19)))
  have V27_96 : own_Arr Z h79 b27 .double [(defaultValue .double), (defaultValue .double), (defaultValue .double)] := (own_Arr.other (own_Arr.ext V27_75 E69) W79 (Ne.symm (Nat.ne_of_lt lt_a1_b27)))
  have V36_97 : own_Arr Z h79 b36 .double [(defaultValue .double), (defaultValue .double), (defaultValue .double)] := (own_Arr.other (own_Arr.ext V36_76 E69) W79 (Ne.symm (Nat.ne_of_lt lt_a1_b36)))
  have V46_98 : own_Arr Z h79 b46 .double [(defaultValue .double), (defaultValue .double), (defaultValue .double)] := (own_Arr.other (own_Arr.ext V46_77 E69) W79 (Ne.symm (Nat.ne_of_lt lt_a1_b46)))
  have V57_99 : own_Arr Z h79 b57 .double [(defaultValue .double), (defaultValue .double), (defaultValue .double)] := (own_Arr.other (own_Arr.ext V57_78 E69) W79 (Ne.symm (Nat.ne_of_lt lt_a1_b57)))
  have V69_100 : own_Arr Z h79 b69 .double [(defaultValue .double), (defaultValue .double), (defaultValue .double)] := (own_Arr.other V69_0 W79 (Ne.symm (Nat.ne_of_lt lt_a1_b69)))
  exact ⟨b2, b6, b12, b19, b27, b36, b46, b57, b69, rfl, N79, K79, E_a1_82, F_length_83, szk_b2, ⟨lt_b2_b6, lt_b6_b12, lt_b12_b19, lt_b19_b27, lt_b27_b36, lt_b36_b46, lt_b46_b57, lt_b57_b69⟩, V69_100.lt, ⟨F3_84, F9_85, F16_86, F24_87, F33_88, F43_89, F54_90, F66_91, F79⟩, V2_92, V6_93, V12_94, V19_95, V27_96, V36_97, V46_98, V57_99, V69_100⟩
theorem ef_4 (m : MethodId) (a1 : Addr) (c1 : Int32) : entryFrame m #[(.ref a1), (.int c1)] 2 = mkF m 0 #[.val (.ref a1), .val (.int c1)] [] := by first | (simp [entryFrame, mkF, argsToLocals, Value.category]; done) | rfl
set_option maxRecDepth 65536 in
set_option maxHeartbeats 40000000 in
theorem rm4 (l : Launch) (Z : State) (a0 : Array Value) (hw : ∀ d ∈ tables_1, d.before a0 Z = true) (ws : List Jvm.Cond) (a1 : Addr) (c1 : Int32) (x0 : Value) (x1 : Value) (x2 : Value) (h0 : Heap) (n0 : Nat) (Z0 : n0 ≤ h0.size) (V_a1 : own_Arr Z h0 a1 .double [x0, x1, x2]) (g_a1 : n0 ≤ a1) :
    MetFree l (⟨"com/example/wayfold/wayfold/engine/TimelineCopyPinLaw", "fill", "([DI)V"⟩ : MethodName) (head1 (Jvm.Cond.code (⟨"com/example/wayfold/wayfold/engine/TimelineCopyPinLaw", "fill", "([DI)V"⟩ : MethodName) method_2_code 2 none :: ws) ({ frames := 0, cells := 0, slots := 0, locals := 0 } : Room)) (fun a U => a = #[(.ref a1), (.int c1)] ∧ Z.Warmed39 U.vm ∧ U.heap = h0) (fun _ _ _ _ _ => True) (fun _ U o U' => ∃ v L, o = .returned v ∧ Q4 Z a1 c1 h0 n0 v U'.heap L ∧ FrameEnd U o U' L ({ frames := 0, cells := 0, slots := 0, locals := 0 } : Room).cells ({ frames := 0, cells := 0, slots := 0, locals := 0 } : Room).slots) := by
  refine MetFree.of_bodySF (plainFor_of_name pn_0) hisR ?_
  intro p e s m args below meth c s₁ Bd hml0 hP hK
  obtain ⟨rfl, hZ, hh⟩ := hP
  have hx := Bd.exec
  have hby := Bd.bytes
  have hml : c.maxLocals = 2 := hml0
  have hown : s.vm.findClass "com/example/wayfold/wayfold/engine/TimelineCopyPinLaw" = some m.cls := findClass_of_methodNamed Bd.named
  have hnm := (name_of_methodNamed Bd.named Bd.method).1
  have hlk : meth.locks = false := BodyLoose.notSynchronized Bd
  have X0 : Stand p l e ({ frames := 0, cells := 0, slots := 0, locals := 0 } : Room) s m #[(.ref a1), (.int c1)] below meth c s₁ [] 0 0 := Stand.of_body Bd
  have e0 : s₁.heap = h0 := by rw [← hh, Bd.state]; rfl
  have N0 := Fr.nil n0
  refine own_start (Q := Q4 Z a1 c1 h0 n0) (ef_4 m a1 c1) ?_
  have K0 := Keep.refl h0 [a1]
  show own_Go p e below _ s₁ (mkF m 0 #[.val (.ref a1), .val (.int c1)] [])
  refine own_by (fun t_ k_ => XS.aloadN X0.here hx rfl (hb hby d4_0) rfl rfl k_) ?_
  show own_Go p e below _ s₁ (mkF m 1 #[.val (.ref a1), .val (.int c1)] [(.ref a1)])
  refine own_by (fun t_ k_ => XS.iconst X0.here hx rfl (hb hby d4_1) k_) ?_
  show own_Go p e below _ s₁ (mkF m 2 #[.val (.ref a1), .val (.int c1)] [(.int (0 : Int32)), (.ref a1)])
  refine own_by (fun t_ k_ => XS.iloadN X0.here hx rfl (hb hby d4_2) rfl k_) ?_
  show own_Go p e below _ s₁ (mkF m 3 #[.val (.ref a1), .val (.int c1)] [(.int c1), (.int (0 : Int32)), (.ref a1)])
  refine own_by (fun t_ k_ => XS.i2dS X0.here hx rfl (hb hby d4_3) rfl rfl k_) ?_
  show own_Go p e below _ s₁ (mkF m 4 #[.val (.ref a1), .val (.int c1)] [(.double (FP.i2d c1)), (.int (0 : Int32)), (.ref a1)])
  refine own_dastore X0 hx hZ e0 V_a1 0 (by decide) (Nat.le_of_ble_eq_true rfl) (hb hby d4_4) ?_
  intro T1 h1 X1 e1 W1 A1
  have V1_0 : own_Arr Z h1 a1 .double [(.double (FP.i2d c1)), x1, x2] := A1
  have N1 := Fr.snoc X1 N0 g_a1
  have sz1 : n0 ≤ h1.size := Nat.le_trans Z0 (Keep.of_wr W1).1
  have K1 : Keep h0 h1 [a1] := K0.wr W1 (Or.inl (List.mem_cons_self ..))
  show own_Go p e below _ T1 (mkF m 5 #[.val (.ref a1), .val (.int c1)] [])
  refine own_by (fun t_ k_ => XS.aloadN X1.here hx rfl (hb hby d4_5) rfl rfl k_) ?_
  show own_Go p e below _ T1 (mkF m 6 #[.val (.ref a1), .val (.int c1)] [(.ref a1)])
  refine own_by (fun t_ k_ => XS.iconst X1.here hx rfl (hb hby d4_6) k_) ?_
  show own_Go p e below _ T1 (mkF m 7 #[.val (.ref a1), .val (.int c1)] [(.int (1 : Int32)), (.ref a1)])
  refine own_by (fun t_ k_ => XS.iloadN X1.here hx rfl (hb hby d4_7) rfl k_) ?_
  show own_Go p e below _ T1 (mkF m 8 #[.val (.ref a1), .val (.int c1)] [(.int c1), (.int (1 : Int32)), (.ref a1)])
  refine own_by (fun t_ k_ => XS.iconst X1.here hx rfl (hb hby d4_8) k_) ?_
  show own_Go p e below _ T1 (mkF m 9 #[.val (.ref a1), .val (.int c1)] [(.int (1 : Int32)), (.int c1), (.int (1 : Int32)), (.ref a1)])
  refine own_by (fun t_ k_ => XS.iadd X1.here hx rfl (hb hby d4_9) rfl k_) ?_
  show own_Go p e below _ T1 (mkF m 10 #[.val (.ref a1), .val (.int c1)] [(.int (c1 + (1 : Int32))), (.int (1 : Int32)), (.ref a1)])
  refine own_by (fun t_ k_ => XS.i2dS X1.here hx rfl (hb hby d4_10) rfl rfl k_) ?_
  show own_Go p e below _ T1 (mkF m 11 #[.val (.ref a1), .val (.int c1)] [(.double (FP.i2d (c1 + (1 : Int32)))), (.int (1 : Int32)), (.ref a1)])
  refine own_dastore X1 hx hZ e1 V1_0 1 (by decide) (Nat.le_of_ble_eq_true rfl) (hb hby d4_11) ?_
  intro T2 h2 X2 e2 W2 A2
  have V2_0 : own_Arr Z h2 a1 .double [(.double (FP.i2d c1)), (.double (FP.i2d (c1 + (1 : Int32)))), x2] := A2
  have N2 := Fr.snoc X2 N1 g_a1
  have sz2 : n0 ≤ h2.size := Nat.le_trans sz1 (Keep.of_wr W2).1
  have K2 : Keep h0 h2 [a1] := K1.wr W2 (Or.inl (List.mem_cons_self ..))
  show own_Go p e below _ T2 (mkF m 12 #[.val (.ref a1), .val (.int c1)] [])
  refine own_by (fun t_ k_ => XS.aloadN X2.here hx rfl (hb hby d4_12) rfl rfl k_) ?_
  show own_Go p e below _ T2 (mkF m 13 #[.val (.ref a1), .val (.int c1)] [(.ref a1)])
  refine own_by (fun t_ k_ => XS.iconst X2.here hx rfl (hb hby d4_13) k_) ?_
  show own_Go p e below _ T2 (mkF m 14 #[.val (.ref a1), .val (.int c1)] [(.int (2 : Int32)), (.ref a1)])
  refine own_by (fun t_ k_ => XS.iloadN X2.here hx rfl (hb hby d4_14) rfl k_) ?_
  show own_Go p e below _ T2 (mkF m 15 #[.val (.ref a1), .val (.int c1)] [(.int c1), (.int (2 : Int32)), (.ref a1)])
  refine own_by (fun t_ k_ => XS.iconst X2.here hx rfl (hb hby d4_15) k_) ?_
  show own_Go p e below _ T2 (mkF m 16 #[.val (.ref a1), .val (.int c1)] [(.int (2 : Int32)), (.int c1), (.int (2 : Int32)), (.ref a1)])
  refine own_by (fun t_ k_ => XS.iadd X2.here hx rfl (hb hby d4_16) rfl k_) ?_
  show own_Go p e below _ T2 (mkF m 17 #[.val (.ref a1), .val (.int c1)] [(.int (c1 + (2 : Int32))), (.int (2 : Int32)), (.ref a1)])
  refine own_by (fun t_ k_ => XS.i2dS X2.here hx rfl (hb hby d4_17) rfl rfl k_) ?_
  show own_Go p e below _ T2 (mkF m 18 #[.val (.ref a1), .val (.int c1)] [(.double (FP.i2d (c1 + (2 : Int32)))), (.int (2 : Int32)), (.ref a1)])
  refine own_dastore X2 hx hZ e2 V2_0 2 (by decide) (Nat.le_of_ble_eq_true rfl) (hb hby d4_18) ?_
  intro T3 h3 X3 e3 W3 A3
  have V3_0 : own_Arr Z h3 a1 .double [(.double (FP.i2d c1)), (.double (FP.i2d (c1 + (1 : Int32)))), (.double (FP.i2d (c1 + (2 : Int32))))] := A3
  have N3 := Fr.snoc X3 N2 g_a1
  have sz3 : n0 ≤ h3.size := Nat.le_trans sz2 (Keep.of_wr W3).1
  have K3 : Keep h0 h3 [a1] := K2.wr W3 (Or.inl (List.mem_cons_self ..))
  show own_Go p e below _ T3 (mkF m 19 #[.val (.ref a1), .val (.int c1)] [])
  refine own_retV X3 hx hlk Bd.returns (hb hby d4_19) e3 (by decide) (by decide) ?_
  exact ⟨rfl, N3, K3, V3_0⟩
theorem ef_3 (m : MethodId) (a1 : Addr) (p2 : Int32) (p3 : Int32) : entryFrame m #[(.ref a1), (.int p2), (.int p3)] 3 = mkF m 0 #[.val (.ref a1), .val (.int p2), .val (.int p3)] [] := by first | (simp [entryFrame, mkF, argsToLocals, Value.category]; done) | rfl
set_option maxRecDepth 65536 in
set_option maxHeartbeats 40000000 in
theorem rm3 (l : Launch) (Z : State) (a0 : Array Value) (hw : ∀ d ∈ tables_1, d.before a0 Z = true) (ws : List Jvm.Cond) (a1 : Addr) (p2 : Int32) (p3 : Int32) (b1 : Addr) (b2 : Addr) (b3 : Addr) (b4 : Addr) (b5 : Addr) (b6 : Addr) (b7 : Addr) (b8 : Addr) (x00 : Value) (x01 : Value) (x02 : Value) (x10 : Value) (x11 : Value) (x12 : Value) (x20 : Value) (x21 : Value) (x22 : Value) (x30 : Value) (x31 : Value) (x32 : Value) (x40 : Value) (x41 : Value) (x42 : Value) (x50 : Value) (x51 : Value) (x52 : Value) (x60 : Value) (x61 : Value) (x62 : Value) (x70 : Value) (x71 : Value) (x72 : Value) (h0 : Heap) (n0 : Nat) (Z0 : n0 ≤ h0.size) (F_leave : Fld Z h0 a1 "com/example/wayfold/wayfold/engine/DayTiming$Timeline" "leave" "[D" (.ref b1)) (F_interest : Fld Z h0 a1 "com/example/wayfold/wayfold/engine/DayTiming$Timeline" "interest" "[D" (.ref b2)) (F_travel : Fld Z h0 a1 "com/example/wayfold/wayfold/engine/DayTiming$Timeline" "travel" "[D" (.ref b3)) (F_visit : Fld Z h0 a1 "com/example/wayfold/wayfold/engine/DayTiming$Timeline" "visit" "[D" (.ref b4)) (F_waiting : Fld Z h0 a1 "com/example/wayfold/wayfold/engine/DayTiming$Timeline" "waiting" "[D" (.ref b5)) (F_load : Fld Z h0 a1 "com/example/wayfold/wayfold/engine/DayTiming$Timeline" "load" "[D" (.ref b6)) (F_latest : Fld Z h0 a1 "com/example/wayfold/wayfold/engine/DayTiming$Timeline" "latest" "[D" (.ref b7)) (F_best : Fld Z h0 a1 "com/example/wayfold/wayfold/engine/DayTiming$Timeline" "best" "[D" (.ref b8)) (V_b1 : own_Arr Z h0 b1 .double [x00, x01, x02]) (V_b2 : own_Arr Z h0 b2 .double [x10, x11, x12]) (V_b3 : own_Arr Z h0 b3 .double [x20, x21, x22]) (V_b4 : own_Arr Z h0 b4 .double [x30, x31, x32]) (V_b5 : own_Arr Z h0 b5 .double [x40, x41, x42]) (V_b6 : own_Arr Z h0 b6 .double [x50, x51, x52]) (V_b7 : own_Arr Z h0 b7 .double [x60, x61, x62]) (V_b8 : own_Arr Z h0 b8 .double [x70, x71, x72]) (lt0 : a1 < b1) (lt1 : b1 < b2) (lt2 : b2 < b3) (lt3 : b3 < b4) (lt4 : b4 < b5) (lt5 : b5 < b6) (lt6 : b6 < b7) (lt7 : b7 < b8) (g_b1 : n0 ≤ b1) (g_b2 : n0 ≤ b2) (g_b3 : n0 ≤ b3) (g_b4 : n0 ≤ b4) (g_b5 : n0 ≤ b5) (g_b6 : n0 ≤ b6) (g_b7 : n0 ≤ b7) (g_b8 : n0 ≤ b8) :
    MetFree l (⟨"com/example/wayfold/wayfold/engine/TimelineCopyPinLaw", "fillAll", "(Lcom/example/wayfold/wayfold/engine/DayTiming$Timeline;II)V"⟩ : MethodName) (head1 (Jvm.Cond.code (⟨"com/example/wayfold/wayfold/engine/TimelineCopyPinLaw", "fillAll", "(Lcom/example/wayfold/wayfold/engine/DayTiming$Timeline;II)V"⟩ : MethodName) method_3_code 3 none :: ws) ({ frames := 1, cells := 0, slots := 0, locals := 13 } : Room)) (fun a U => a = #[(.ref a1), (.int p2), (.int p3)] ∧ Z.Warmed39 U.vm ∧ U.heap = h0) (fun _ _ _ _ _ => True) (fun _ U o U' => ∃ v L, o = .returned v ∧ Q3 Z b1 b2 b3 b4 b5 b6 b7 b8 p2 p3 h0 n0 v U'.heap L ∧ FrameEnd U o U' L ({ frames := 1, cells := 0, slots := 0, locals := 13 } : Room).cells ({ frames := 1, cells := 0, slots := 0, locals := 13 } : Room).slots) := by
  refine MetFree.of_bodySF (plainFor_of_name pn_0) hisR ?_
  intro p e s m args below meth c s₁ Bd hml0 hP hK
  obtain ⟨rfl, hZ, hh⟩ := hP
  have hx := Bd.exec
  have hby := Bd.bytes
  have hml : c.maxLocals = 3 := hml0
  have hown : s.vm.findClass "com/example/wayfold/wayfold/engine/TimelineCopyPinLaw" = some m.cls := findClass_of_methodNamed Bd.named
  have hnm := (name_of_methodNamed Bd.named Bd.method).1
  have hlk : meth.locks = false := BodyLoose.notSynchronized Bd
  have X0 : Stand p l e ({ frames := 1, cells := 0, slots := 0, locals := 13 } : Room) s m #[(.ref a1), (.int p2), (.int p3)] below meth c s₁ [] 0 0 := Stand.of_body Bd
  have e0 : s₁.heap = h0 := by rw [← hh, Bd.state]; rfl
  have N0 := Fr.nil n0
  refine own_start (Q := Q3 Z b1 b2 b3 b4 b5 b6 b7 b8 p2 p3 h0 n0) (ef_3 m a1 p2 p3) ?_
  have K0 := Keep.refl h0 [b1, b2, b3, b4, b5, b6, b7, b8]
  show own_Go p e below _ s₁ (mkF m 0 #[.val (.ref a1), .val (.int p2), .val (.int p3)] [])
  refine own_by (fun t_ k_ => XS.aloadN X0.here hx rfl (hb hby d3_0) rfl rfl k_) ?_
  show own_Go p e below _ s₁ (mkF m 1 #[.val (.ref a1), .val (.int p2), .val (.int p3)] [(.ref a1)])
  refine own_getF X0 hx hZ hown (own_w hw 38 rfl) Via.refl e0 F_leave (hb hby d3_1) ?_
  intro T1 X1 e1
  show own_Go p e below _ T1 (mkF m 4 #[.val (.ref a1), .val (.int p2), .val (.int p3)] [(.ref b1)])
  refine own_by (fun t_ k_ => XS.iloadN X1.here hx rfl (hb hby d3_4) rfl k_) ?_
  show own_Go p e below _ T1 (mkF m 5 #[.val (.ref a1), .val (.int p2), .val (.int p3)] [(.int p2), (.ref b1)])
  refine own_callS (W := 0) X1 hx hZ (y := (⟨"com/example/wayfold/wayfold/engine/TimelineCopyPinLaw", "fill", "([DI)V"⟩ : MethodName)) hown (own_w hw 39 rfl) (own_w hw 40 rfl) (own_w hw 36 rfl) (own_w hw 41 rfl) (by decide) (by rw [hml]; rfl) (argsL := [(.ref b1), (.int p2)]) pd_3 rfl (rm4 l Z a0 hw [] b1 p2 x00 x01 x02 h0 n0 Z0 V_b1 g_b1) (by decide) (by decide) (Nat.le_of_eq rfl) (by decide) (by decide) (rest := []) e1 rfl (hb hby d3_5) ?_
  intro v2 T2 L2 X2 hQ2
  obtain ⟨rfl, N2q, K2q, A2⟩ := hQ2
  have N2 := Fr.app N0 N2q
  have sz2 : n0 ≤ T2.heap.size := Nat.le_trans Z0 K2q.1
  have K2 : Keep h0 T2.heap [b1, b2, b3, b4, b5, b6, b7, b8] := K0.trans K2q (allS (Or.inl (by simp)) all0)
  show own_Go p e below _ T2 (mkF m 8 #[.val (.ref a1), .val (.int p2), .val (.int p3)] [])
  refine own_by (fun t_ k_ => XS.aloadN X2.here hx rfl (hb hby d3_8) rfl rfl k_) ?_
  show own_Go p e below _ T2 (mkF m 9 #[.val (.ref a1), .val (.int p2), .val (.int p3)] [(.ref a1)])
  have n4 : a1 ≠ b1 := Nat.ne_of_lt lt0
  have F_interest_5 : Fld Z T2.heap a1 "com/example/wayfold/wayfold/engine/DayTiming$Timeline" "interest" "[D" (.ref b2) := (Fld.keep F_interest K2q (ninS n4 nin0))
  refine own_getF X2 hx hZ hown (own_w hw 42 rfl) Via.refl rfl F_interest_5 (hb hby d3_9) ?_
  intro T3 X3 e3
  show own_Go p e below _ T3 (mkF m 12 #[.val (.ref a1), .val (.int p2), .val (.int p3)] [(.ref b2)])
  refine own_by (fun t_ k_ => XS.iloadN X3.here hx rfl (hb hby d3_12) rfl k_) ?_
  show own_Go p e below _ T3 (mkF m 13 #[.val (.ref a1), .val (.int p2), .val (.int p3)] [(.int p2), (.ref b2)])
  refine own_by (fun t_ k_ => XS.iloadN X3.here hx rfl (hb hby d3_13) rfl k_) ?_
  show own_Go p e below _ T3 (mkF m 14 #[.val (.ref a1), .val (.int p2), .val (.int p3)] [(.int p3), (.int p2), (.ref b2)])
  refine own_by (fun t_ k_ => XS.iadd X3.here hx rfl (hb hby d3_14) rfl k_) ?_
  show own_Go p e below _ T3 (mkF m 15 #[.val (.ref a1), .val (.int p2), .val (.int p3)] [(.int (p2 + p3)), (.ref b2)])
  have n6 : b1 ≠ b2 := Nat.ne_of_lt lt1
  have V_b2_7 : own_Arr Z T2.heap b2 .double [x10, x11, x12] := (own_Arr.keep V_b2 K2q (ninS (Ne.symm n6) nin0))
  refine own_callS (W := 0) X3 hx hZ (y := (⟨"com/example/wayfold/wayfold/engine/TimelineCopyPinLaw", "fill", "([DI)V"⟩ : MethodName)) hown (own_w hw 39 rfl) (own_w hw 40 rfl) (own_w hw 36 rfl) (own_w hw 41 rfl) (by decide) (by rw [hml]; rfl) (argsL := [(.ref b2), (.int (p2 + p3))]) pd_3 rfl (rm4 l Z a0 hw [] b2 (p2 + p3) x10 x11 x12 T2.heap n0 sz2 V_b2_7 g_b2) (by decide) (by decide) (Nat.le_of_eq rfl) (by decide) (by decide) (rest := []) e3 rfl (hb hby d3_15) ?_
  intro v8 T8 L8 X8 hQ8
  obtain ⟨rfl, N8q, K8q, A8⟩ := hQ8
  have N8 := Fr.app N2 N8q
  have sz8 : n0 ≤ T8.heap.size := Nat.le_trans sz2 K8q.1
  have K8 : Keep h0 T8.heap [b1, b2, b3, b4, b5, b6, b7, b8] := K2.trans K8q (allS (Or.inl (by simp)) all0)
  show own_Go p e below _ T8 (mkF m 18 #[.val (.ref a1), .val (.int p2), .val (.int p3)] [])
  refine own_by (fun t_ k_ => XS.aloadN X8.here hx rfl (hb hby d3_18) rfl rfl k_) ?_
  show own_Go p e below _ T8 (mkF m 19 #[.val (.ref a1), .val (.int p2), .val (.int p3)] [(.ref a1)])
  have n10 : a1 ≠ b2 := Nat.ne_of_lt (Nat.lt_trans lt0 lt1)
  have F_travel_11 : Fld Z T8.heap a1 "com/example/wayfold/wayfold/engine/DayTiming$Timeline" "travel" "[D" (.ref b3) := (Fld.keep (Fld.keep F_travel K2q (ninS n4 nin0)) K8q (ninS n10 nin0))
  refine own_getF X8 hx hZ hown (own_w hw 43 rfl) Via.refl rfl F_travel_11 (hb hby d3_19) ?_
  intro T9 X9 e9
  show own_Go p e below _ T9 (mkF m 22 #[.val (.ref a1), .val (.int p2), .val (.int p3)] [(.ref b3)])
  refine own_by (fun t_ k_ => XS.iloadN X9.here hx rfl (hb hby d3_22) rfl k_) ?_
  show own_Go p e below _ T9 (mkF m 23 #[.val (.ref a1), .val (.int p2), .val (.int p3)] [(.int p2), (.ref b3)])
  refine own_by (fun t_ k_ => XS.iconst X9.here hx rfl (hb hby d3_23) k_) ?_
  show own_Go p e below _ T9 (mkF m 24 #[.val (.ref a1), .val (.int p2), .val (.int p3)] [(.int (2 : Int32)), (.int p2), (.ref b3)])
  refine own_by (fun t_ k_ => XS.iloadN X9.here hx rfl (hb hby d3_24) rfl k_) ?_
  show own_Go p e below _ T9 (mkF m 25 #[.val (.ref a1), .val (.int p2), .val (.int p3)] [(.int p3), (.int (2 : Int32)), (.int p2), (.ref b3)])
  refine own_by (fun t_ k_ => XS.imul X9.here hx rfl (hb hby d3_25) rfl k_) ?_
  show own_Go p e below _ T9 (mkF m 26 #[.val (.ref a1), .val (.int p2), .val (.int p3)] [(.int ((2 : Int32) * p3)), (.int p2), (.ref b3)])
  refine own_by (fun t_ k_ => XS.iadd X9.here hx rfl (hb hby d3_26) rfl k_) ?_
  show own_Go p e below _ T9 (mkF m 27 #[.val (.ref a1), .val (.int p2), .val (.int p3)] [(.int (p2 + ((2 : Int32) * p3))), (.ref b3)])
  have n12 : b1 ≠ b3 := Nat.ne_of_lt (Nat.lt_trans lt1 lt2)
  have n13 : b2 ≠ b3 := Nat.ne_of_lt lt2
  have V_b3_14 : own_Arr Z T8.heap b3 .double [x20, x21, x22] := (own_Arr.keep (own_Arr.keep V_b3 K2q (ninS (Ne.symm n12) nin0)) K8q (ninS (Ne.symm n13) nin0))
  refine own_callS (W := 0) X9 hx hZ (y := (⟨"com/example/wayfold/wayfold/engine/TimelineCopyPinLaw", "fill", "([DI)V"⟩ : MethodName)) hown (own_w hw 39 rfl) (own_w hw 40 rfl) (own_w hw 36 rfl) (own_w hw 41 rfl) (by decide) (by rw [hml]; rfl) (argsL := [(.ref b3), (.int (p2 + ((2 : Int32) * p3)))]) pd_3 rfl (rm4 l Z a0 hw [] b3 (p2 + ((2 : Int32) * p3)) x20 x21 x22 T8.heap n0 sz8 V_b3_14 g_b3) (by decide) (by decide) (Nat.le_of_eq rfl) (by decide) (by decide) (rest := []) e9 rfl (hb hby d3_27) ?_
  intro v15 T15 L15 X15 hQ15
  obtain ⟨rfl, N15q, K15q, A15⟩ := hQ15
  have N15 := Fr.app N8 N15q
  have sz15 : n0 ≤ T15.heap.size := Nat.le_trans sz8 K15q.1
  have K15 : Keep h0 T15.heap [b1, b2, b3, b4, b5, b6, b7, b8] := K8.trans K15q (allS (Or.inl (by simp)) all0)
  show own_Go p e below _ T15 (mkF m 30 #[.val (.ref a1), .val (.int p2), .val (.int p3)] [])
  refine own_by (fun t_ k_ => XS.aloadN X15.here hx rfl (hb hby d3_30) rfl rfl k_) ?_
  show own_Go p e below _ T15 (mkF m 31 #[.val (.ref a1), .val (.int p2), .val (.int p3)] [(.ref a1)])
  have n17 : a1 ≠ b3 := Nat.ne_of_lt (Nat.lt_trans lt0 (Nat.lt_trans lt1 lt2))
  have F_visit_18 : Fld Z T15.heap a1 "com/example/wayfold/wayfold/engine/DayTiming$Timeline" "visit" "[D" (.ref b4) := (Fld.keep (Fld.keep (Fld.keep F_visit K2q (ninS n4 nin0)) K8q (ninS n10 nin0)) K15q (ninS n17 nin0))
  refine own_getF X15 hx hZ hown (own_w hw 44 rfl) Via.refl rfl F_visit_18 (hb hby d3_31) ?_
  intro T16 X16 e16
  show own_Go p e below _ T16 (mkF m 34 #[.val (.ref a1), .val (.int p2), .val (.int p3)] [(.ref b4)])
  refine own_by (fun t_ k_ => XS.iloadN X16.here hx rfl (hb hby d3_34) rfl k_) ?_
  show own_Go p e below _ T16 (mkF m 35 #[.val (.ref a1), .val (.int p2), .val (.int p3)] [(.int p2), (.ref b4)])
  refine own_by (fun t_ k_ => XS.iconst X16.here hx rfl (hb hby d3_35) k_) ?_
  show own_Go p e below _ T16 (mkF m 36 #[.val (.ref a1), .val (.int p2), .val (.int p3)] [(.int (3 : Int32)), (.int p2), (.ref b4)])
  refine own_by (fun t_ k_ => XS.iloadN X16.here hx rfl (hb hby d3_36) rfl k_) ?_
  show own_Go p e below _ T16 (mkF m 37 #[.val (.ref a1), .val (.int p2), .val (.int p3)] [(.int p3), (.int (3 : Int32)), (.int p2), (.ref b4)])
  refine own_by (fun t_ k_ => XS.imul X16.here hx rfl (hb hby d3_37) rfl k_) ?_
  show own_Go p e below _ T16 (mkF m 38 #[.val (.ref a1), .val (.int p2), .val (.int p3)] [(.int ((3 : Int32) * p3)), (.int p2), (.ref b4)])
  refine own_by (fun t_ k_ => XS.iadd X16.here hx rfl (hb hby d3_38) rfl k_) ?_
  show own_Go p e below _ T16 (mkF m 39 #[.val (.ref a1), .val (.int p2), .val (.int p3)] [(.int (p2 + ((3 : Int32) * p3))), (.ref b4)])
  have n19 : b1 ≠ b4 := Nat.ne_of_lt (Nat.lt_trans lt1 (Nat.lt_trans lt2 lt3))
  have n20 : b2 ≠ b4 := Nat.ne_of_lt (Nat.lt_trans lt2 lt3)
  have n21 : b3 ≠ b4 := Nat.ne_of_lt lt3
  have V_b4_22 : own_Arr Z T15.heap b4 .double [x30, x31, x32] := (own_Arr.keep (own_Arr.keep (own_Arr.keep V_b4 K2q (ninS (Ne.symm n19) nin0)) K8q (ninS (Ne.symm n20) nin0)) K15q (ninS (Ne.symm n21) nin0))
  refine own_callS (W := 0) X16 hx hZ (y := (⟨"com/example/wayfold/wayfold/engine/TimelineCopyPinLaw", "fill", "([DI)V"⟩ : MethodName)) hown (own_w hw 39 rfl) (own_w hw 40 rfl) (own_w hw 36 rfl) (own_w hw 41 rfl) (by decide) (by rw [hml]; rfl) (argsL := [(.ref b4), (.int (p2 + ((3 : Int32) * p3)))]) pd_3 rfl (rm4 l Z a0 hw [] b4 (p2 + ((3 : Int32) * p3)) x30 x31 x32 T15.heap n0 sz15 V_b4_22 g_b4) (by decide) (by decide) (Nat.le_of_eq rfl) (by decide) (by decide) (rest := []) e16 rfl (hb hby d3_39) ?_
  intro v23 T23 L23 X23 hQ23
  obtain ⟨rfl, N23q, K23q, A23⟩ := hQ23
  have N23 := Fr.app N15 N23q
  have sz23 : n0 ≤ T23.heap.size := Nat.le_trans sz15 K23q.1
  have K23 : Keep h0 T23.heap [b1, b2, b3, b4, b5, b6, b7, b8] := K15.trans K23q (allS (Or.inl (by simp)) all0)
  show own_Go p e below _ T23 (mkF m 42 #[.val (.ref a1), .val (.int p2), .val (.int p3)] [])
  refine own_by (fun t_ k_ => XS.aloadN X23.here hx rfl (hb hby d3_42) rfl rfl k_) ?_
  show own_Go p e below _ T23 (mkF m 43 #[.val (.ref a1), .val (.int p2), .val (.int p3)] [(.ref a1)])
  have n25 : a1 ≠ b4 := Nat.ne_of_lt (Nat.lt_trans lt0 (Nat.lt_trans lt1 (Nat.lt_trans lt2 lt3)))
  have F_waiting_26 : Fld Z T23.heap a1 "com/example/wayfold/wayfold/engine/DayTiming$Timeline" "waiting" "[D" (.ref b5) := (Fld.keep (Fld.keep (Fld.keep (Fld.keep F_waiting K2q (ninS n4 nin0)) K8q (ninS n10 nin0)) K15q (ninS n17 nin0)) K23q (ninS n25 nin0))
  refine own_getF X23 hx hZ hown (own_w hw 45 rfl) Via.refl rfl F_waiting_26 (hb hby d3_43) ?_
  intro T24 X24 e24
  show own_Go p e below _ T24 (mkF m 46 #[.val (.ref a1), .val (.int p2), .val (.int p3)] [(.ref b5)])
  refine own_by (fun t_ k_ => XS.iloadN X24.here hx rfl (hb hby d3_46) rfl k_) ?_
  show own_Go p e below _ T24 (mkF m 47 #[.val (.ref a1), .val (.int p2), .val (.int p3)] [(.int p2), (.ref b5)])
  refine own_by (fun t_ k_ => XS.iconst X24.here hx rfl (hb hby d3_47) k_) ?_
  show own_Go p e below _ T24 (mkF m 48 #[.val (.ref a1), .val (.int p2), .val (.int p3)] [(.int (4 : Int32)), (.int p2), (.ref b5)])
  refine own_by (fun t_ k_ => XS.iloadN X24.here hx rfl (hb hby d3_48) rfl k_) ?_
  show own_Go p e below _ T24 (mkF m 49 #[.val (.ref a1), .val (.int p2), .val (.int p3)] [(.int p3), (.int (4 : Int32)), (.int p2), (.ref b5)])
  refine own_by (fun t_ k_ => XS.imul X24.here hx rfl (hb hby d3_49) rfl k_) ?_
  show own_Go p e below _ T24 (mkF m 50 #[.val (.ref a1), .val (.int p2), .val (.int p3)] [(.int ((4 : Int32) * p3)), (.int p2), (.ref b5)])
  refine own_by (fun t_ k_ => XS.iadd X24.here hx rfl (hb hby d3_50) rfl k_) ?_
  show own_Go p e below _ T24 (mkF m 51 #[.val (.ref a1), .val (.int p2), .val (.int p3)] [(.int (p2 + ((4 : Int32) * p3))), (.ref b5)])
  have n27 : b1 ≠ b5 := Nat.ne_of_lt (Nat.lt_trans lt1 (Nat.lt_trans lt2 (Nat.lt_trans lt3 lt4)))
  have n28 : b2 ≠ b5 := Nat.ne_of_lt (Nat.lt_trans lt2 (Nat.lt_trans lt3 lt4))
  have n29 : b3 ≠ b5 := Nat.ne_of_lt (Nat.lt_trans lt3 lt4)
  have n30 : b4 ≠ b5 := Nat.ne_of_lt lt4
  have V_b5_31 : own_Arr Z T23.heap b5 .double [x40, x41, x42] := (own_Arr.keep (own_Arr.keep (own_Arr.keep (own_Arr.keep V_b5 K2q (ninS (Ne.symm n27) nin0)) K8q (ninS (Ne.symm n28) nin0)) K15q (ninS (Ne.symm n29) nin0)) K23q (ninS (Ne.symm n30) nin0))
  refine own_callS (W := 0) X24 hx hZ (y := (⟨"com/example/wayfold/wayfold/engine/TimelineCopyPinLaw", "fill", "([DI)V"⟩ : MethodName)) hown (own_w hw 39 rfl) (own_w hw 40 rfl) (own_w hw 36 rfl) (own_w hw 41 rfl) (by decide) (by rw [hml]; rfl) (argsL := [(.ref b5), (.int (p2 + ((4 : Int32) * p3)))]) pd_3 rfl (rm4 l Z a0 hw [] b5 (p2 + ((4 : Int32) * p3)) x40 x41 x42 T23.heap n0 sz23 V_b5_31 g_b5) (by decide) (by decide) (Nat.le_of_eq rfl) (by decide) (by decide) (rest := []) e24 rfl (hb hby d3_51) ?_
  intro v32 T32 L32 X32 hQ32
  obtain ⟨rfl, N32q, K32q, A32⟩ := hQ32
  have N32 := Fr.app N23 N32q
  have sz32 : n0 ≤ T32.heap.size := Nat.le_trans sz23 K32q.1
  have K32 : Keep h0 T32.heap [b1, b2, b3, b4, b5, b6, b7, b8] := K23.trans K32q (allS (Or.inl (by simp)) all0)
  show own_Go p e below _ T32 (mkF m 54 #[.val (.ref a1), .val (.int p2), .val (.int p3)] [])
  refine own_by (fun t_ k_ => XS.aloadN X32.here hx rfl (hb hby d3_54) rfl rfl k_) ?_
  show own_Go p e below _ T32 (mkF m 55 #[.val (.ref a1), .val (.int p2), .val (.int p3)] [(.ref a1)])
  have n34 : a1 ≠ b5 := Nat.ne_of_lt (Nat.lt_trans lt0 (Nat.lt_trans lt1 (Nat.lt_trans lt2 (Nat.lt_trans lt3 lt4))))
  have F_load_35 : Fld Z T32.heap a1 "com/example/wayfold/wayfold/engine/DayTiming$Timeline" "load" "[D" (.ref b6) := (Fld.keep (Fld.keep (Fld.keep (Fld.keep (Fld.keep F_load K2q (ninS n4 nin0)) K8q (ninS n10 nin0)) K15q (ninS n17 nin0)) K23q (ninS n25 nin0)) K32q (ninS n34 nin0))
  refine own_getF X32 hx hZ hown (own_w hw 46 rfl) Via.refl rfl F_load_35 (hb hby d3_55) ?_
  intro T33 X33 e33
  show own_Go p e below _ T33 (mkF m 58 #[.val (.ref a1), .val (.int p2), .val (.int p3)] [(.ref b6)])
  refine own_by (fun t_ k_ => XS.iloadN X33.here hx rfl (hb hby d3_58) rfl k_) ?_
  show own_Go p e below _ T33 (mkF m 59 #[.val (.ref a1), .val (.int p2), .val (.int p3)] [(.int p2), (.ref b6)])
  refine own_by (fun t_ k_ => XS.iconst X33.here hx rfl (hb hby d3_59) k_) ?_
  show own_Go p e below _ T33 (mkF m 60 #[.val (.ref a1), .val (.int p2), .val (.int p3)] [(.int (5 : Int32)), (.int p2), (.ref b6)])
  refine own_by (fun t_ k_ => XS.iloadN X33.here hx rfl (hb hby d3_60) rfl k_) ?_
  show own_Go p e below _ T33 (mkF m 61 #[.val (.ref a1), .val (.int p2), .val (.int p3)] [(.int p3), (.int (5 : Int32)), (.int p2), (.ref b6)])
  refine own_by (fun t_ k_ => XS.imul X33.here hx rfl (hb hby d3_61) rfl k_) ?_
  show own_Go p e below _ T33 (mkF m 62 #[.val (.ref a1), .val (.int p2), .val (.int p3)] [(.int ((5 : Int32) * p3)), (.int p2), (.ref b6)])
  refine own_by (fun t_ k_ => XS.iadd X33.here hx rfl (hb hby d3_62) rfl k_) ?_
  show own_Go p e below _ T33 (mkF m 63 #[.val (.ref a1), .val (.int p2), .val (.int p3)] [(.int (p2 + ((5 : Int32) * p3))), (.ref b6)])
  have n36 : b1 ≠ b6 := Nat.ne_of_lt (Nat.lt_trans lt1 (Nat.lt_trans lt2 (Nat.lt_trans lt3 (Nat.lt_trans lt4 lt5))))
  have n37 : b2 ≠ b6 := Nat.ne_of_lt (Nat.lt_trans lt2 (Nat.lt_trans lt3 (Nat.lt_trans lt4 lt5)))
  have n38 : b3 ≠ b6 := Nat.ne_of_lt (Nat.lt_trans lt3 (Nat.lt_trans lt4 lt5))
  have n39 : b4 ≠ b6 := Nat.ne_of_lt (Nat.lt_trans lt4 lt5)
  have n40 : b5 ≠ b6 := Nat.ne_of_lt lt5
  have V_b6_41 : own_Arr Z T32.heap b6 .double [x50, x51, x52] := (own_Arr.keep (own_Arr.keep (own_Arr.keep (own_Arr.keep (own_Arr.keep V_b6 K2q (ninS (Ne.symm n36) nin0)) K8q (ninS (Ne.symm n37) nin0)) K15q (ninS (Ne.symm n38) nin0)) K23q (ninS (Ne.symm n39) nin0)) K32q (ninS (Ne.symm n40) nin0))
  refine own_callS (W := 0) X33 hx hZ (y := (⟨"com/example/wayfold/wayfold/engine/TimelineCopyPinLaw", "fill", "([DI)V"⟩ : MethodName)) hown (own_w hw 39 rfl) (own_w hw 40 rfl) (own_w hw 36 rfl) (own_w hw 41 rfl) (by decide) (by rw [hml]; rfl) (argsL := [(.ref b6), (.int (p2 + ((5 : Int32) * p3)))]) pd_3 rfl (rm4 l Z a0 hw [] b6 (p2 + ((5 : Int32) * p3)) x50 x51 x52 T32.heap n0 sz32 V_b6_41 g_b6) (by decide) (by decide) (Nat.le_of_eq rfl) (by decide) (by decide) (rest := []) e33 rfl (hb hby d3_63) ?_
  intro v42 T42 L42 X42 hQ42
  obtain ⟨rfl, N42q, K42q, A42⟩ := hQ42
  have N42 := Fr.app N32 N42q
  have sz42 : n0 ≤ T42.heap.size := Nat.le_trans sz32 K42q.1
  have K42 : Keep h0 T42.heap [b1, b2, b3, b4, b5, b6, b7, b8] := K32.trans K42q (allS (Or.inl (by simp)) all0)
  show own_Go p e below _ T42 (mkF m 66 #[.val (.ref a1), .val (.int p2), .val (.int p3)] [])
  refine own_by (fun t_ k_ => XS.aloadN X42.here hx rfl (hb hby d3_66) rfl rfl k_) ?_
  show own_Go p e below _ T42 (mkF m 67 #[.val (.ref a1), .val (.int p2), .val (.int p3)] [(.ref a1)])
  have n44 : a1 ≠ b6 := Nat.ne_of_lt (Nat.lt_trans lt0 (Nat.lt_trans lt1 (Nat.lt_trans lt2 (Nat.lt_trans lt3 (Nat.lt_trans lt4 lt5)))))
  have F_latest_45 : Fld Z T42.heap a1 "com/example/wayfold/wayfold/engine/DayTiming$Timeline" "latest" "[D" (.ref b7) := (Fld.keep (Fld.keep (Fld.keep (Fld.keep (Fld.keep (Fld.keep F_latest K2q (ninS n4 nin0)) K8q (ninS n10 nin0)) K15q (ninS n17 nin0)) K23q (ninS n25 nin0)) K32q (ninS n34 nin0)) K42q (ninS n44 nin0))
  refine own_getF X42 hx hZ hown (own_w hw 47 rfl) Via.refl rfl F_latest_45 (hb hby d3_67) ?_
  intro T43 X43 e43
  show own_Go p e below _ T43 (mkF m 70 #[.val (.ref a1), .val (.int p2), .val (.int p3)] [(.ref b7)])
  refine own_by (fun t_ k_ => XS.iloadN X43.here hx rfl (hb hby d3_70) rfl k_) ?_
  show own_Go p e below _ T43 (mkF m 71 #[.val (.ref a1), .val (.int p2), .val (.int p3)] [(.int p2), (.ref b7)])
  refine own_by (fun t_ k_ => XS.bipush X43.here hx rfl (hb hby d3_71) k_) ?_
  show own_Go p e below _ T43 (mkF m 73 #[.val (.ref a1), .val (.int p2), .val (.int p3)] [(.int (6 : Int32)), (.int p2), (.ref b7)])
  refine own_by (fun t_ k_ => XS.iloadN X43.here hx rfl (hb hby d3_73) rfl k_) ?_
  show own_Go p e below _ T43 (mkF m 74 #[.val (.ref a1), .val (.int p2), .val (.int p3)] [(.int p3), (.int (6 : Int32)), (.int p2), (.ref b7)])
  refine own_by (fun t_ k_ => XS.imul X43.here hx rfl (hb hby d3_74) rfl k_) ?_
  show own_Go p e below _ T43 (mkF m 75 #[.val (.ref a1), .val (.int p2), .val (.int p3)] [(.int ((6 : Int32) * p3)), (.int p2), (.ref b7)])
  refine own_by (fun t_ k_ => XS.iadd X43.here hx rfl (hb hby d3_75) rfl k_) ?_
  show own_Go p e below _ T43 (mkF m 76 #[.val (.ref a1), .val (.int p2), .val (.int p3)] [(.int (p2 + ((6 : Int32) * p3))), (.ref b7)])
  have n46 : b1 ≠ b7 := Nat.ne_of_lt (Nat.lt_trans lt1 (Nat.lt_trans lt2 (Nat.lt_trans lt3 (Nat.lt_trans lt4 (Nat.lt_trans lt5 lt6)))))
  have n47 : b2 ≠ b7 := Nat.ne_of_lt (Nat.lt_trans lt2 (Nat.lt_trans lt3 (Nat.lt_trans lt4 (Nat.lt_trans lt5 lt6))))
  have n48 : b3 ≠ b7 := Nat.ne_of_lt (Nat.lt_trans lt3 (Nat.lt_trans lt4 (Nat.lt_trans lt5 lt6)))
  have n49 : b4 ≠ b7 := Nat.ne_of_lt (Nat.lt_trans lt4 (Nat.lt_trans lt5 lt6))
  have n50 : b5 ≠ b7 := Nat.ne_of_lt (Nat.lt_trans lt5 lt6)
  have n51 : b6 ≠ b7 := Nat.ne_of_lt lt6
  have V_b7_52 : own_Arr Z T42.heap b7 .double [x60, x61, x62] := (own_Arr.keep (own_Arr.keep (own_Arr.keep (own_Arr.keep (own_Arr.keep (own_Arr.keep V_b7 K2q (ninS (Ne.symm n46) nin0)) K8q (ninS (Ne.symm n47) nin0)) K15q (ninS (Ne.symm n48) nin0)) K23q (ninS (Ne.symm n49) nin0)) K32q (ninS (Ne.symm n50) nin0)) K42q (ninS (Ne.symm n51) nin0))
  refine own_callS (W := 0) X43 hx hZ (y := (⟨"com/example/wayfold/wayfold/engine/TimelineCopyPinLaw", "fill", "([DI)V"⟩ : MethodName)) hown (own_w hw 39 rfl) (own_w hw 40 rfl) (own_w hw 36 rfl) (own_w hw 41 rfl) (by decide) (by rw [hml]; rfl) (argsL := [(.ref b7), (.int (p2 + ((6 : Int32) * p3)))]) pd_3 rfl (rm4 l Z a0 hw [] b7 (p2 + ((6 : Int32) * p3)) x60 x61 x62 T42.heap n0 sz42 V_b7_52 g_b7) (by decide) (by decide) (Nat.le_of_eq rfl) (by decide) (by decide) (rest := []) e43 rfl (hb hby d3_76) ?_
  intro v53 T53 L53 X53 hQ53
  obtain ⟨rfl, N53q, K53q, A53⟩ := hQ53
  have N53 := Fr.app N42 N53q
  have sz53 : n0 ≤ T53.heap.size := Nat.le_trans sz42 K53q.1
  have K53 : Keep h0 T53.heap [b1, b2, b3, b4, b5, b6, b7, b8] := K42.trans K53q (allS (Or.inl (by simp)) all0)
  show own_Go p e below _ T53 (mkF m 79 #[.val (.ref a1), .val (.int p2), .val (.int p3)] [])
  refine own_by (fun t_ k_ => XS.aloadN X53.here hx rfl (hb hby d3_79) rfl rfl k_) ?_
  show own_Go p e below _ T53 (mkF m 80 #[.val (.ref a1), .val (.int p2), .val (.int p3)] [(.ref a1)])
  have n55 : a1 ≠ b7 := Nat.ne_of_lt (Nat.lt_trans lt0 (Nat.lt_trans lt1 (Nat.lt_trans lt2 (Nat.lt_trans lt3 (Nat.lt_trans lt4 (Nat.lt_trans lt5 lt6))))))
  have F_best_56 : Fld Z T53.heap a1 "com/example/wayfold/wayfold/engine/DayTiming$Timeline" "best" "[D" (.ref b8) := (Fld.keep (Fld.keep (Fld.keep (Fld.keep (Fld.keep (Fld.keep (Fld.keep F_best K2q (ninS n4 nin0)) K8q (ninS n10 nin0)) K15q (ninS n17 nin0)) K23q (ninS n25 nin0)) K32q (ninS n34 nin0)) K42q (ninS n44 nin0)) K53q (ninS n55 nin0))
  refine own_getF X53 hx hZ hown (own_w hw 48 rfl) Via.refl rfl F_best_56 (hb hby d3_80) ?_
  intro T54 X54 e54
  show own_Go p e below _ T54 (mkF m 83 #[.val (.ref a1), .val (.int p2), .val (.int p3)] [(.ref b8)])
  refine own_by (fun t_ k_ => XS.iloadN X54.here hx rfl (hb hby d3_83) rfl k_) ?_
  show own_Go p e below _ T54 (mkF m 84 #[.val (.ref a1), .val (.int p2), .val (.int p3)] [(.int p2), (.ref b8)])
  refine own_by (fun t_ k_ => XS.bipush X54.here hx rfl (hb hby d3_84) k_) ?_
  show own_Go p e below _ T54 (mkF m 86 #[.val (.ref a1), .val (.int p2), .val (.int p3)] [(.int (7 : Int32)), (.int p2), (.ref b8)])
  refine own_by (fun t_ k_ => XS.iloadN X54.here hx rfl (hb hby d3_86) rfl k_) ?_
  show own_Go p e below _ T54 (mkF m 87 #[.val (.ref a1), .val (.int p2), .val (.int p3)] [(.int p3), (.int (7 : Int32)), (.int p2), (.ref b8)])
  refine own_by (fun t_ k_ => XS.imul X54.here hx rfl (hb hby d3_87) rfl k_) ?_
  show own_Go p e below _ T54 (mkF m 88 #[.val (.ref a1), .val (.int p2), .val (.int p3)] [(.int ((7 : Int32) * p3)), (.int p2), (.ref b8)])
  refine own_by (fun t_ k_ => XS.iadd X54.here hx rfl (hb hby d3_88) rfl k_) ?_
  show own_Go p e below _ T54 (mkF m 89 #[.val (.ref a1), .val (.int p2), .val (.int p3)] [(.int (p2 + ((7 : Int32) * p3))), (.ref b8)])
  have n57 : b1 ≠ b8 := Nat.ne_of_lt (Nat.lt_trans lt1 (Nat.lt_trans lt2 (Nat.lt_trans lt3 (Nat.lt_trans lt4 (Nat.lt_trans lt5 (Nat.lt_trans lt6 lt7))))))
  have n58 : b2 ≠ b8 := Nat.ne_of_lt (Nat.lt_trans lt2 (Nat.lt_trans lt3 (Nat.lt_trans lt4 (Nat.lt_trans lt5 (Nat.lt_trans lt6 lt7)))))
  have n59 : b3 ≠ b8 := Nat.ne_of_lt (Nat.lt_trans lt3 (Nat.lt_trans lt4 (Nat.lt_trans lt5 (Nat.lt_trans lt6 lt7))))
  have n60 : b4 ≠ b8 := Nat.ne_of_lt (Nat.lt_trans lt4 (Nat.lt_trans lt5 (Nat.lt_trans lt6 lt7)))
  have n61 : b5 ≠ b8 := Nat.ne_of_lt (Nat.lt_trans lt5 (Nat.lt_trans lt6 lt7))
  have n62 : b6 ≠ b8 := Nat.ne_of_lt (Nat.lt_trans lt6 lt7)
  have n63 : b7 ≠ b8 := Nat.ne_of_lt lt7
  have V_b8_64 : own_Arr Z T53.heap b8 .double [x70, x71, x72] := (own_Arr.keep (own_Arr.keep (own_Arr.keep (own_Arr.keep (own_Arr.keep (own_Arr.keep (own_Arr.keep V_b8 K2q (ninS (Ne.symm n57) nin0)) K8q (ninS (Ne.symm n58) nin0)) K15q (ninS (Ne.symm n59) nin0)) K23q (ninS (Ne.symm n60) nin0)) K32q (ninS (Ne.symm n61) nin0)) K42q (ninS (Ne.symm n62) nin0)) K53q (ninS (Ne.symm n63) nin0))
  refine own_callS (W := 0) X54 hx hZ (y := (⟨"com/example/wayfold/wayfold/engine/TimelineCopyPinLaw", "fill", "([DI)V"⟩ : MethodName)) hown (own_w hw 39 rfl) (own_w hw 40 rfl) (own_w hw 36 rfl) (own_w hw 41 rfl) (by decide) (by rw [hml]; rfl) (argsL := [(.ref b8), (.int (p2 + ((7 : Int32) * p3)))]) pd_3 rfl (rm4 l Z a0 hw [] b8 (p2 + ((7 : Int32) * p3)) x70 x71 x72 T53.heap n0 sz53 V_b8_64 g_b8) (by decide) (by decide) (Nat.le_of_eq rfl) (by decide) (by decide) (rest := []) e54 rfl (hb hby d3_89) ?_
  intro v65 T65 L65 X65 hQ65
  obtain ⟨rfl, N65q, K65q, A65⟩ := hQ65
  have N65 := Fr.app N53 N65q
  have sz65 : n0 ≤ T65.heap.size := Nat.le_trans sz53 K65q.1
  have K65 : Keep h0 T65.heap [b1, b2, b3, b4, b5, b6, b7, b8] := K53.trans K65q (allS (Or.inl (by simp)) all0)
  show own_Go p e below _ T65 (mkF m 92 #[.val (.ref a1), .val (.int p2), .val (.int p3)] [])
  refine own_retV X65 hx hlk Bd.returns (hb hby d3_92) rfl (by decide) (by decide) ?_
  have A2_66 : own_Arr Z T65.heap b1 .double (own_tri p2) := (own_Arr.keep (own_Arr.keep (own_Arr.keep (own_Arr.keep (own_Arr.keep (own_Arr.keep (own_Arr.keep A2 K8q (ninS n6 nin0)) K15q (ninS n12 nin0)) K23q (ninS n19 nin0)) K32q (ninS n27 nin0)) K42q (ninS n36 nin0)) K53q (ninS n46 nin0)) K65q (ninS n57 nin0))
  have A8_67 : own_Arr Z T65.heap b2 .double (own_tri (p2 + p3)) := (own_Arr.keep (own_Arr.keep (own_Arr.keep (own_Arr.keep (own_Arr.keep (own_Arr.keep A8 K15q (ninS n13 nin0)) K23q (ninS n20 nin0)) K32q (ninS n28 nin0)) K42q (ninS n37 nin0)) K53q (ninS n47 nin0)) K65q (ninS n58 nin0))
  have A15_68 : own_Arr Z T65.heap b3 .double (own_tri (p2 + ((2 : Int32) * p3))) := (own_Arr.keep (own_Arr.keep (own_Arr.keep (own_Arr.keep (own_Arr.keep A15 K23q (ninS n21 nin0)) K32q (ninS n29 nin0)) K42q (ninS n38 nin0)) K53q (ninS n48 nin0)) K65q (ninS n59 nin0))
  have A23_69 : own_Arr Z T65.heap b4 .double (own_tri (p2 + ((3 : Int32) * p3))) := (own_Arr.keep (own_Arr.keep (own_Arr.keep (own_Arr.keep A23 K32q (ninS n30 nin0)) K42q (ninS n39 nin0)) K53q (ninS n49 nin0)) K65q (ninS n60 nin0))
  have A32_70 : own_Arr Z T65.heap b5 .double (own_tri (p2 + ((4 : Int32) * p3))) := (own_Arr.keep (own_Arr.keep (own_Arr.keep A32 K42q (ninS n40 nin0)) K53q (ninS n50 nin0)) K65q (ninS n61 nin0))
  have A42_71 : own_Arr Z T65.heap b6 .double (own_tri (p2 + ((5 : Int32) * p3))) := (own_Arr.keep (own_Arr.keep A42 K53q (ninS n51 nin0)) K65q (ninS n62 nin0))
  have A53_72 : own_Arr Z T65.heap b7 .double (own_tri (p2 + ((6 : Int32) * p3))) := (own_Arr.keep A53 K65q (ninS n63 nin0))
  exact ⟨rfl, N65, K65, A2_66, A8_67, A15_68, A23_69, A32_70, A42_71, A53_72, A65⟩
theorem ef_5 (m : MethodId) (a1 : Addr) (a2 : Addr) : entryFrame m #[(.ref a1), (.ref a2)] 2 = mkF m 0 #[.val (.ref a1), .val (.ref a2)] [] := by first | (simp [entryFrame, mkF, argsToLocals, Value.category]; done) | rfl
set_option maxRecDepth 65536 in
set_option maxHeartbeats 40000000 in
theorem rm5 (l : Launch) (Z : State) (a0 : Array Value) (hw : ∀ d ∈ tables_1, d.before a0 Z = true) (ws : List Jvm.Cond) (a1 : Addr) (a2 : Addr) (r0 : Addr) (r1 : Addr) (r2 : Addr) (r3 : Addr) (r4 : Addr) (r5 : Addr) (r6 : Addr) (r7 : Addr) (r8 : Addr) (o0 : Addr) (o1 : Addr) (o2 : Addr) (o3 : Addr) (o4 : Addr) (o5 : Addr) (o6 : Addr) (o7 : Addr) (o8 : Addr) (len0 : Value) (len : Int32) (k : Nat) (x00 : Value) (x01 : Value) (x10 : Value) (x11 : Value) (x12 : Value) (x20 : Value) (x21 : Value) (x22 : Value) (x30 : Value) (x31 : Value) (x32 : Value) (x40 : Value) (x41 : Value) (x42 : Value) (x50 : Value) (x51 : Value) (x52 : Value) (x60 : Value) (x61 : Value) (x62 : Value) (x70 : Value) (x71 : Value) (x72 : Value) (x80 : Value) (x81 : Value) (x82 : Value) (y00 : Value) (y01 : Value) (y10 : Value) (y11 : Value) (y12 : Value) (y20 : Value) (y21 : Value) (y22 : Value) (y30 : Value) (y31 : Value) (y32 : Value) (y40 : Value) (y41 : Value) (y42 : Value) (y50 : Value) (y51 : Value) (y52 : Value) (y60 : Value) (y61 : Value) (y62 : Value) (y70 : Value) (y71 : Value) (y72 : Value) (y80 : Value) (y81 : Value) (y82 : Value) (h0 : Heap) (n0 : Nat) (Z0 : n0 ≤ h0.size) (E_a1 : Exa Z h0 a1 "com/example/wayfold/wayfold/engine/DayTiming$Timeline") (F_length1 : Fld Z h0 a1 "com/example/wayfold/wayfold/engine/DayTiming$Timeline" "length" "I" len0) (F_length2 : Fld Z h0 a2 "com/example/wayfold/wayfold/engine/DayTiming$Timeline" "length" "I" (.int len)) (Fr_nodes : Fld Z h0 a1 "com/example/wayfold/wayfold/engine/DayTiming$Timeline" "nodes" "[I" (.ref r0)) (Fr_leave : Fld Z h0 a1 "com/example/wayfold/wayfold/engine/DayTiming$Timeline" "leave" "[D" (.ref r1)) (Fr_interest : Fld Z h0 a1 "com/example/wayfold/wayfold/engine/DayTiming$Timeline" "interest" "[D" (.ref r2)) (Fr_travel : Fld Z h0 a1 "com/example/wayfold/wayfold/engine/DayTiming$Timeline" "travel" "[D" (.ref r3)) (Fr_visit : Fld Z h0 a1 "com/example/wayfold/wayfold/engine/DayTiming$Timeline" "visit" "[D" (.ref r4)) (Fr_waiting : Fld Z h0 a1 "com/example/wayfold/wayfold/engine/DayTiming$Timeline" "waiting" "[D" (.ref r5)) (Fr_load : Fld Z h0 a1 "com/example/wayfold/wayfold/engine/DayTiming$Timeline" "load" "[D" (.ref r6)) (Fr_latest : Fld Z h0 a1 "com/example/wayfold/wayfold/engine/DayTiming$Timeline" "latest" "[D" (.ref r7)) (Fr_best : Fld Z h0 a1 "com/example/wayfold/wayfold/engine/DayTiming$Timeline" "best" "[D" (.ref r8)) (Fo_nodes : Fld Z h0 a2 "com/example/wayfold/wayfold/engine/DayTiming$Timeline" "nodes" "[I" (.ref o0)) (Fo_leave : Fld Z h0 a2 "com/example/wayfold/wayfold/engine/DayTiming$Timeline" "leave" "[D" (.ref o1)) (Fo_interest : Fld Z h0 a2 "com/example/wayfold/wayfold/engine/DayTiming$Timeline" "interest" "[D" (.ref o2)) (Fo_travel : Fld Z h0 a2 "com/example/wayfold/wayfold/engine/DayTiming$Timeline" "travel" "[D" (.ref o3)) (Fo_visit : Fld Z h0 a2 "com/example/wayfold/wayfold/engine/DayTiming$Timeline" "visit" "[D" (.ref o4)) (Fo_waiting : Fld Z h0 a2 "com/example/wayfold/wayfold/engine/DayTiming$Timeline" "waiting" "[D" (.ref o5)) (Fo_load : Fld Z h0 a2 "com/example/wayfold/wayfold/engine/DayTiming$Timeline" "load" "[D" (.ref o6)) (Fo_latest : Fld Z h0 a2 "com/example/wayfold/wayfold/engine/DayTiming$Timeline" "latest" "[D" (.ref o7)) (Fo_best : Fld Z h0 a2 "com/example/wayfold/wayfold/engine/DayTiming$Timeline" "best" "[D" (.ref o8)) (Vr0 : own_Arr Z h0 r0 .int [x00, x01]) (Vr1 : own_Arr Z h0 r1 .double [x10, x11, x12]) (Vr2 : own_Arr Z h0 r2 .double [x20, x21, x22]) (Vr3 : own_Arr Z h0 r3 .double [x30, x31, x32]) (Vr4 : own_Arr Z h0 r4 .double [x40, x41, x42]) (Vr5 : own_Arr Z h0 r5 .double [x50, x51, x52]) (Vr6 : own_Arr Z h0 r6 .double [x60, x61, x62]) (Vr7 : own_Arr Z h0 r7 .double [x70, x71, x72]) (Vr8 : own_Arr Z h0 r8 .double [x80, x81, x82]) (Vo0 : own_Arr Z h0 o0 .int [y00, y01]) (Vo1 : own_Arr Z h0 o1 .double [y10, y11, y12]) (Vo2 : own_Arr Z h0 o2 .double [y20, y21, y22]) (Vo3 : own_Arr Z h0 o3 .double [y30, y31, y32]) (Vo4 : own_Arr Z h0 o4 .double [y40, y41, y42]) (Vo5 : own_Arr Z h0 o5 .double [y50, y51, y52]) (Vo6 : own_Arr Z h0 o6 .double [y60, y61, y62]) (Vo7 : own_Arr Z h0 o7 .double [y70, y71, y72]) (Vo8 : own_Arr Z h0 o8 .double [y80, y81, y82]) (q0 : a2 < o0) (q1 : o0 < o1) (q2 : o1 < o2) (q3 : o2 < o3) (q4 : o3 < o4) (q5 : o4 < o5) (q6 : o5 < o6) (q7 : o6 < o7) (q8 : o7 < o8) (q9 : o8 < a1) (q10 : a1 < r0) (q11 : r0 < r1) (q12 : r1 < r2) (q13 : r2 < r3) (q14 : r3 < r4) (q15 : r4 < r5) (q16 : r5 < r6) (q17 : r6 < r7) (q18 : r7 < r8) (g_a1 : n0 ≤ a1) (g_r0 : n0 ≤ r0) (g_r1 : n0 ≤ r1) (g_r2 : n0 ≤ r2) (g_r3 : n0 ≤ r3) (g_r4 : n0 ≤ r4) (g_r5 : n0 ≤ r5) (g_r6 : n0 ≤ r6) (g_r7 : n0 ≤ r7) (g_r8 : n0 ≤ r8) (hlen : (len = 0 ∧ k = 0) ∨ (len = 1 ∧ k = 1) ∨ (len = 2 ∧ k = 2)) :
    MetFree l (⟨"com/example/wayfold/wayfold/engine/DayTiming$Timeline", "copy", "(Lcom/example/wayfold/wayfold/engine/DayTiming$Timeline;)V"⟩ : MethodName) (head1 (Jvm.Cond.code (⟨"com/example/wayfold/wayfold/engine/DayTiming$Timeline", "copy", "(Lcom/example/wayfold/wayfold/engine/DayTiming$Timeline;)V"⟩ : MethodName) prog_4_method_2_code 2 none :: ws) ({ frames := 1, cells := 0, slots := 0, locals := 30 } : Room)) (fun a U => a = #[(.ref a1), (.ref a2)] ∧ Z.Warmed39 U.vm ∧ U.heap = h0) (fun _ _ _ _ _ => True) (fun _ U o U' => ∃ v L, o = .returned v ∧ Q5 Z a1 r0 r1 r2 r3 r4 r5 r6 r7 r8 len k [x00, x01] [x10, x11, x12] [x20, x21, x22] [x30, x31, x32] [x40, x41, x42] [x50, x51, x52] [x60, x61, x62] [x70, x71, x72] [x80, x81, x82] [y00, y01] [y10, y11, y12] [y20, y21, y22] [y30, y31, y32] [y40, y41, y42] [y50, y51, y52] [y60, y61, y62] [y70, y71, y72] [y80, y81, y82] h0 n0 v U'.heap L ∧ FrameEnd U o U' L ({ frames := 1, cells := 0, slots := 0, locals := 30 } : Room).cells ({ frames := 1, cells := 0, slots := 0, locals := 30 } : Room).slots) := by
  refine MetFree.of_bodySF (plainFor_of_name pn_1) hisR ?_
  intro p e s m args below meth c s₁ Bd hml0 hP hK
  obtain ⟨rfl, hZ, hh⟩ := hP
  have hx := Bd.exec
  have hby := Bd.bytes
  have hml : c.maxLocals = 2 := hml0
  have hown : s.vm.findClass "com/example/wayfold/wayfold/engine/DayTiming$Timeline" = some m.cls := findClass_of_methodNamed Bd.named
  have hnm := (name_of_methodNamed Bd.named Bd.method).1
  have hlk : meth.locks = false := BodyLoose.notSynchronized Bd
  have X0 : Stand p l e ({ frames := 1, cells := 0, slots := 0, locals := 30 } : Room) s m #[(.ref a1), (.ref a2)] below meth c s₁ [] 0 0 := Stand.of_body Bd
  have e0 : s₁.heap = h0 := by rw [← hh, Bd.state]; rfl
  have N0 := Fr.nil n0
  refine own_start (Q := Q5 Z a1 r0 r1 r2 r3 r4 r5 r6 r7 r8 len k [x00, x01] [x10, x11, x12] [x20, x21, x22] [x30, x31, x32] [x40, x41, x42] [x50, x51, x52] [x60, x61, x62] [x70, x71, x72] [x80, x81, x82] [y00, y01] [y10, y11, y12] [y20, y21, y22] [y30, y31, y32] [y40, y41, y42] [y50, y51, y52] [y60, y61, y62] [y70, y71, y72] [y80, y81, y82] h0 n0) (ef_5 m a1 a2) ?_
  have K0 := Keep.refl h0 [a1, r0, r1, r2, r3, r4, r5, r6, r7, r8]
  rcases hlen with ⟨rfl, rfl⟩ | ⟨rfl, rfl⟩ | ⟨rfl, rfl⟩
  · show own_Go p e below _ s₁ (mkF m 0 #[.val (.ref a1), .val (.ref a2)] [])
    refine own_by (fun t_ k_ => XS.aloadN X0.here hx rfl (hb hby d5_0) rfl rfl k_) ?_
    show own_Go p e below _ s₁ (mkF m 1 #[.val (.ref a1), .val (.ref a2)] [(.ref a1)])
    refine own_by (fun t_ k_ => XS.aloadN X0.here hx rfl (hb hby d5_1) rfl rfl k_) ?_
    show own_Go p e below _ s₁ (mkF m 2 #[.val (.ref a1), .val (.ref a2)] [(.ref a2), (.ref a1)])
    refine own_getF X0 hx hZ hown (own_w hw 54 rfl) Via.refl e0 F_length2 (hb hby d5_2) ?_
    intro T1 X1 e1
    show own_Go p e below _ T1 (mkF m 5 #[.val (.ref a1), .val (.ref a2)] [(.int (0 : Int32)), (.ref a1)])
    refine own_putF X1 hx hZ hown (own_w hw 54 rfl) Via.refl e1 F_length1 E_a1 (Or.inl (own_w hw 32 rfl)) (own_w hw 3 rfl) (ty := .int) (by decide) rfl rfl (hb hby d5_5) ?_
    intro T2 h2 X2 e2 W2
    have F2 := Fld.same W2 F_length1
    have N2 := Fr.snoc X2 N0 g_a1
    have sz2 : n0 ≤ h2.size := Nat.le_trans Z0 (Keep.of_wr W2).1
    have K2 : Keep h0 h2 [a1, r0, r1, r2, r3, r4, r5, r6, r7, r8] := K0.wr W2 (Or.inl (by simp))
    show own_Go p e below _ T2 (mkF m 8 #[.val (.ref a1), .val (.ref a2)] [])
    refine own_by (fun t_ k_ => XS.aloadN X2.here hx rfl (hb hby d5_8) rfl rfl k_) ?_
    show own_Go p e below _ T2 (mkF m 9 #[.val (.ref a1), .val (.ref a2)] [(.ref a2)])
    have n4 : a2 ≠ a1 := Nat.ne_of_lt (Nat.lt_trans q0 (Nat.lt_trans q1 (Nat.lt_trans q2 (Nat.lt_trans q3 (Nat.lt_trans q4 (Nat.lt_trans q5 (Nat.lt_trans q6 (Nat.lt_trans q7 (Nat.lt_trans q8 q9)))))))))
    have Fo_nodes_5 : Fld Z h2 a2 "com/example/wayfold/wayfold/engine/DayTiming$Timeline" "nodes" "[I" (.ref o0) := (Fld.other W2 Fo_nodes (Or.inl n4))
    refine own_getF X2 hx hZ hown (own_w hw 12 rfl) Via.refl e2 Fo_nodes_5 (hb hby d5_9) ?_
    intro T3 X3 e3
    show own_Go p e below _ T3 (mkF m 12 #[.val (.ref a1), .val (.ref a2)] [(.ref o0)])
    refine own_by (fun t_ k_ => XS.iconst X3.here hx rfl (hb hby d5_12) k_) ?_
    show own_Go p e below _ T3 (mkF m 13 #[.val (.ref a1), .val (.ref a2)] [(.int (0 : Int32)), (.ref o0)])
    refine own_by (fun t_ k_ => XS.aloadN X3.here hx rfl (hb hby d5_13) rfl rfl k_) ?_
    show own_Go p e below _ T3 (mkF m 14 #[.val (.ref a1), .val (.ref a2)] [(.ref a1), (.int (0 : Int32)), (.ref o0)])
    have Fr_nodes_7 : Fld Z h2 a1 "com/example/wayfold/wayfold/engine/DayTiming$Timeline" "nodes" "[I" (.ref r0) := (Fld.other W2 Fr_nodes (Or.inr (slot_ne (Or.inr (own_w hw 13 rfl)) (Or.inl (own_w hw 32 rfl)) (by decide) (t := (.array .int)) (t' := .int) (by decide) (by decide))))
    refine own_getF X3 hx hZ hown (own_w hw 12 rfl) Via.refl e3 Fr_nodes_7 (hb hby d5_14) ?_
    intro T6 X6 e6
    show own_Go p e below _ T6 (mkF m 17 #[.val (.ref a1), .val (.ref a2)] [(.ref r0), (.int (0 : Int32)), (.ref o0)])
    refine own_by (fun t_ k_ => XS.iconst X6.here hx rfl (hb hby d5_17) k_) ?_
    show own_Go p e below _ T6 (mkF m 18 #[.val (.ref a1), .val (.ref a2)] [(.int (0 : Int32)), (.ref r0), (.int (0 : Int32)), (.ref o0)])
    refine own_by (fun t_ k_ => XS.aloadN X6.here hx rfl (hb hby d5_18) rfl rfl k_) ?_
    show own_Go p e below _ T6 (mkF m 19 #[.val (.ref a1), .val (.ref a2)] [(.ref a1), (.int (0 : Int32)), (.ref r0), (.int (0 : Int32)), (.ref o0)])
    refine own_getF X6 hx hZ hown (own_w hw 54 rfl) Via.refl e6 F2 (hb hby d5_19) ?_
    intro T8 X8 e8
    show own_Go p e below _ T8 (mkF m 22 #[.val (.ref a1), .val (.ref a2)] [(.int (0 : Int32)), (.int (0 : Int32)), (.ref r0), (.int (0 : Int32)), (.ref o0)])
    have n10 : o0 ≠ a1 := Nat.ne_of_lt (Nat.lt_trans q1 (Nat.lt_trans q2 (Nat.lt_trans q3 (Nat.lt_trans q4 (Nat.lt_trans q5 (Nat.lt_trans q6 (Nat.lt_trans q7 (Nat.lt_trans q8 q9))))))))
    have Vo0_11 : own_Arr Z h2 o0 .int [y00, y01] := (own_Arr.other Vo0 W2 n10)
    have n12 : a1 ≠ r0 := Nat.ne_of_lt q10
    have Vr0_13 : own_Arr Z h2 r0 .int [x00, x01] := (own_Arr.other Vr0 W2 (Ne.symm n12))
    refine own_cpA X8 hx hZ hown (own_w hw 55 rfl) (own_w hw 58 rfl) (own_w hw 56 rfl) (own_w hw 57 rfl) e8 Vo0_11 Vr0_13 rfl 0 0 0 (by decide) (by decide) (by decide) (by simp) (by simp) N2 g_r0 (by rw [hml]; rfl) (hb hby d5_22) (by decide) (W := 0) (Nat.le_of_eq rfl) (by decide) ?_
    intro T9 h9 L9 X9 e9 N9 K9q A9
    have sz9 : n0 ≤ h9.size := Nat.le_trans sz2 K9q.1
    have K9 : Keep h0 h9 [a1, r0, r1, r2, r3, r4, r5, r6, r7, r8] := K2.trans K9q (allS (Or.inl (by simp)) all0)
    have V9_0 : own_Arr Z h9 r0 .int [x00, x01] := A9
    show own_Go p e below _ T9 (mkF m 25 #[.val (.ref a1), .val (.ref a2)] [])
    refine own_by (fun t_ k_ => XS.aloadN X9.here hx rfl (hb hby d5_25) rfl rfl k_) ?_
    show own_Go p e below _ T9 (mkF m 26 #[.val (.ref a1), .val (.ref a2)] [(.ref a2)])
    have n15 : a2 ≠ r0 := Nat.ne_of_lt (Nat.lt_trans q0 (Nat.lt_trans q1 (Nat.lt_trans q2 (Nat.lt_trans q3 (Nat.lt_trans q4 (Nat.lt_trans q5 (Nat.lt_trans q6 (Nat.lt_trans q7 (Nat.lt_trans q8 (Nat.lt_trans q9 q10))))))))))
    have Fo_leave_16 : Fld Z h9 a2 "com/example/wayfold/wayfold/engine/DayTiming$Timeline" "leave" "[D" (.ref o1) := (Fld.keep (Fld.other W2 Fo_leave (Or.inl n4)) K9q (ninS n15 nin0))
    refine own_getF X9 hx hZ hown (own_w hw 15 rfl) Via.refl e9 Fo_leave_16 (hb hby d5_26) ?_
    intro T14 X14 e14
    show own_Go p e below _ T14 (mkF m 29 #[.val (.ref a1), .val (.ref a2)] [(.ref o1)])
    refine own_by (fun t_ k_ => XS.iconst X14.here hx rfl (hb hby d5_29) k_) ?_
    show own_Go p e below _ T14 (mkF m 30 #[.val (.ref a1), .val (.ref a2)] [(.int (0 : Int32)), (.ref o1)])
    refine own_by (fun t_ k_ => XS.aloadN X14.here hx rfl (hb hby d5_30) rfl rfl k_) ?_
    show own_Go p e below _ T14 (mkF m 31 #[.val (.ref a1), .val (.ref a2)] [(.ref a1), (.int (0 : Int32)), (.ref o1)])
    have Fr_leave_18 : Fld Z h9 a1 "com/example/wayfold/wayfold/engine/DayTiming$Timeline" "leave" "[D" (.ref r1) := (Fld.keep (Fld.other W2 Fr_leave (Or.inr (slot_ne (Or.inr (own_w hw 16 rfl)) (Or.inl (own_w hw 32 rfl)) (by decide) (t := (.array .double)) (t' := .int) (by decide) (by decide)))) K9q (ninS n12 nin0))
    refine own_getF X14 hx hZ hown (own_w hw 15 rfl) Via.refl e14 Fr_leave_18 (hb hby d5_31) ?_
    intro T17 X17 e17
    show own_Go p e below _ T17 (mkF m 34 #[.val (.ref a1), .val (.ref a2)] [(.ref r1), (.int (0 : Int32)), (.ref o1)])
    refine own_by (fun t_ k_ => XS.iconst X17.here hx rfl (hb hby d5_34) k_) ?_
    show own_Go p e below _ T17 (mkF m 35 #[.val (.ref a1), .val (.ref a2)] [(.int (0 : Int32)), (.ref r1), (.int (0 : Int32)), (.ref o1)])
    refine own_by (fun t_ k_ => XS.aloadN X17.here hx rfl (hb hby d5_35) rfl rfl k_) ?_
    show own_Go p e below _ T17 (mkF m 36 #[.val (.ref a1), .val (.ref a2)] [(.ref a1), (.int (0 : Int32)), (.ref r1), (.int (0 : Int32)), (.ref o1)])
    have F2_20 : Fld Z h9 a1 "com/example/wayfold/wayfold/engine/DayTiming$Timeline" "length" "I" (.int (0 : Int32)) := (Fld.keep F2 K9q (ninS n12 nin0))
    refine own_getF X17 hx hZ hown (own_w hw 54 rfl) Via.refl e17 F2_20 (hb hby d5_36) ?_
    intro T19 X19 e19
    show own_Go p e below _ T19 (mkF m 39 #[.val (.ref a1), .val (.ref a2)] [(.int (0 : Int32)), (.int (0 : Int32)), (.ref r1), (.int (0 : Int32)), (.ref o1)])
    refine own_by (fun t_ k_ => XS.iconst X19.here hx rfl (hb hby d5_39) k_) ?_
    show own_Go p e below _ T19 (mkF m 40 #[.val (.ref a1), .val (.ref a2)] [(.int (1 : Int32)), (.int (0 : Int32)), (.int (0 : Int32)), (.ref r1), (.int (0 : Int32)), (.ref o1)])
    refine own_by (fun t_ k_ => XS.iadd X19.here hx rfl (hb hby d5_40) rfl k_) ?_
    show own_Go p e below _ T19 (mkF m 41 #[.val (.ref a1), .val (.ref a2)] [(.int (1 : Int32)), (.int (0 : Int32)), (.ref r1), (.int (0 : Int32)), (.ref o1)])
    have n22 : o1 ≠ a1 := Nat.ne_of_lt (Nat.lt_trans q2 (Nat.lt_trans q3 (Nat.lt_trans q4 (Nat.lt_trans q5 (Nat.lt_trans q6 (Nat.lt_trans q7 (Nat.lt_trans q8 q9)))))))
    have n23 : o1 ≠ r0 := Nat.ne_of_lt (Nat.lt_trans q2 (Nat.lt_trans q3 (Nat.lt_trans q4 (Nat.lt_trans q5 (Nat.lt_trans q6 (Nat.lt_trans q7 (Nat.lt_trans q8 (Nat.lt_trans q9 q10))))))))
    have Vo1_24 : own_Arr Z h9 o1 .double [y10, y11, y12] := (own_Arr.keep (own_Arr.other Vo1 W2 n22) K9q (ninS n23 nin0))
    have n25 : a1 ≠ r1 := Nat.ne_of_lt (Nat.lt_trans q10 q11)
    have n26 : r0 ≠ r1 := Nat.ne_of_lt q11
    have Vr1_27 : own_Arr Z h9 r1 .double [x10, x11, x12] := (own_Arr.keep (own_Arr.other Vr1 W2 (Ne.symm n25)) K9q (ninS (Ne.symm n26) nin0))
    refine own_cpA X19 hx hZ hown (own_w hw 55 rfl) (own_w hw 58 rfl) (own_w hw 56 rfl) (own_w hw 57 rfl) e19 Vo1_24 Vr1_27 rfl 0 0 1 (by decide) (by decide) (by decide) (by simp) (by simp) N9 g_r1 (by rw [hml]; rfl) (hb hby d5_41) (by decide) (W := 0) (Nat.le_of_eq rfl) (by decide) ?_
    intro T21 h21 L21 X21 e21 N21 K21q A21
    have sz21 : n0 ≤ h21.size := Nat.le_trans sz9 K21q.1
    have K21 : Keep h0 h21 [a1, r0, r1, r2, r3, r4, r5, r6, r7, r8] := K9.trans K21q (allS (Or.inl (by simp)) all0)
    have V21_0 : own_Arr Z h21 r1 .double [y10, x11, x12] := A21
    show own_Go p e below _ T21 (mkF m 44 #[.val (.ref a1), .val (.ref a2)] [])
    refine own_by (fun t_ k_ => XS.aloadN X21.here hx rfl (hb hby d5_44) rfl rfl k_) ?_
    show own_Go p e below _ T21 (mkF m 45 #[.val (.ref a1), .val (.ref a2)] [(.ref a2)])
    have n29 : a2 ≠ r1 := Nat.ne_of_lt (Nat.lt_trans q0 (Nat.lt_trans q1 (Nat.lt_trans q2 (Nat.lt_trans q3 (Nat.lt_trans q4 (Nat.lt_trans q5 (Nat.lt_trans q6 (Nat.lt_trans q7 (Nat.lt_trans q8 (Nat.lt_trans q9 (Nat.lt_trans q10 q11)))))))))))
    have Fo_interest_30 : Fld Z h21 a2 "com/example/wayfold/wayfold/engine/DayTiming$Timeline" "interest" "[D" (.ref o2) := (Fld.keep (Fld.keep (Fld.other W2 Fo_interest (Or.inl n4)) K9q (ninS n15 nin0)) K21q (ninS n29 nin0))
    refine own_getF X21 hx hZ hown (own_w hw 17 rfl) Via.refl e21 Fo_interest_30 (hb hby d5_45) ?_
    intro T28 X28 e28
    show own_Go p e below _ T28 (mkF m 48 #[.val (.ref a1), .val (.ref a2)] [(.ref o2)])
    refine own_by (fun t_ k_ => XS.iconst X28.here hx rfl (hb hby d5_48) k_) ?_
    show own_Go p e below _ T28 (mkF m 49 #[.val (.ref a1), .val (.ref a2)] [(.int (0 : Int32)), (.ref o2)])
    refine own_by (fun t_ k_ => XS.aloadN X28.here hx rfl (hb hby d5_49) rfl rfl k_) ?_
    show own_Go p e below _ T28 (mkF m 50 #[.val (.ref a1), .val (.ref a2)] [(.ref a1), (.int (0 : Int32)), (.ref o2)])
    have Fr_interest_32 : Fld Z h21 a1 "com/example/wayfold/wayfold/engine/DayTiming$Timeline" "interest" "[D" (.ref r2) := (Fld.keep (Fld.keep (Fld.other W2 Fr_interest (Or.inr (slot_ne (Or.inr (own_w hw 18 rfl)) (Or.inl (own_w hw 32 rfl)) (by decide) (t := (.array .double)) (t' := .int) (by decide) (by decide)))) K9q (ninS n12 nin0)) K21q (ninS n25 nin0))
    refine own_getF X28 hx hZ hown (own_w hw 17 rfl) Via.refl e28 Fr_interest_32 (hb hby d5_50) ?_
    intro T31 X31 e31
    show own_Go p e below _ T31 (mkF m 53 #[.val (.ref a1), .val (.ref a2)] [(.ref r2), (.int (0 : Int32)), (.ref o2)])
    refine own_by (fun t_ k_ => XS.iconst X31.here hx rfl (hb hby d5_53) k_) ?_
    show own_Go p e below _ T31 (mkF m 54 #[.val (.ref a1), .val (.ref a2)] [(.int (0 : Int32)), (.ref r2), (.int (0 : Int32)), (.ref o2)])
    refine own_by (fun t_ k_ => XS.aloadN X31.here hx rfl (hb hby d5_54) rfl rfl k_) ?_
    show own_Go p e below _ T31 (mkF m 55 #[.val (.ref a1), .val (.ref a2)] [(.ref a1), (.int (0 : Int32)), (.ref r2), (.int (0 : Int32)), (.ref o2)])
    have F2_34 : Fld Z h21 a1 "com/example/wayfold/wayfold/engine/DayTiming$Timeline" "length" "I" (.int (0 : Int32)) := (Fld.keep F2_20 K21q (ninS n25 nin0))
    refine own_getF X31 hx hZ hown (own_w hw 54 rfl) Via.refl e31 F2_34 (hb hby d5_55) ?_
    intro T33 X33 e33
    show own_Go p e below _ T33 (mkF m 58 #[.val (.ref a1), .val (.ref a2)] [(.int (0 : Int32)), (.int (0 : Int32)), (.ref r2), (.int (0 : Int32)), (.ref o2)])
    refine own_by (fun t_ k_ => XS.iconst X33.here hx rfl (hb hby d5_58) k_) ?_
    show own_Go p e below _ T33 (mkF m 59 #[.val (.ref a1), .val (.ref a2)] [(.int (1 : Int32)), (.int (0 : Int32)), (.int (0 : Int32)), (.ref r2), (.int (0 : Int32)), (.ref o2)])
    refine own_by (fun t_ k_ => XS.iadd X33.here hx rfl (hb hby d5_59) rfl k_) ?_
    show own_Go p e below _ T33 (mkF m 60 #[.val (.ref a1), .val (.ref a2)] [(.int (1 : Int32)), (.int (0 : Int32)), (.ref r2), (.int (0 : Int32)), (.ref o2)])
    have n36 : o2 ≠ a1 := Nat.ne_of_lt (Nat.lt_trans q3 (Nat.lt_trans q4 (Nat.lt_trans q5 (Nat.lt_trans q6 (Nat.lt_trans q7 (Nat.lt_trans q8 q9))))))
    have n37 : o2 ≠ r0 := Nat.ne_of_lt (Nat.lt_trans q3 (Nat.lt_trans q4 (Nat.lt_trans q5 (Nat.lt_trans q6 (Nat.lt_trans q7 (Nat.lt_trans q8 (Nat.lt_trans q9 q10)))))))
    have n38 : o2 ≠ r1 := Nat.ne_of_lt (Nat.lt_trans q3 (Nat.lt_trans q4 (Nat.lt_trans q5 (Nat.lt_trans q6 (Nat.lt_trans q7 (Nat.lt_trans q8 (Nat.lt_trans q9 (Nat.lt_trans q10 q11))))))))
    have Vo2_39 : own_Arr Z h21 o2 .double [y20, y21, y22] := (own_Arr.keep (own_Arr.keep (own_Arr.other Vo2 W2 n36) K9q (ninS n37 nin0)) K21q (ninS n38 nin0))
    have n40 : a1 ≠ r2 := Nat.ne_of_lt (Nat.lt_trans q10 (Nat.lt_trans q11 q12))
    have n41 : r0 ≠ r2 := Nat.ne_of_lt (Nat.lt_trans q11 q12)
    have n42 : r1 ≠ r2 := Nat.ne_of_lt q12
    have Vr2_43 : own_Arr Z h21 r2 .double [x20, x21, x22] := (own_Arr.keep (own_Arr.keep (own_Arr.other Vr2 W2 (Ne.symm n40)) K9q (ninS (Ne.symm n41) nin0)) K21q (ninS (Ne.symm n42) nin0))
    refine own_cpA X33 hx hZ hown (own_w hw 55 rfl) (own_w hw 58 rfl) (own_w hw 56 rfl) (own_w hw 57 rfl) e33 Vo2_39 Vr2_43 rfl 0 0 1 (by decide) (by decide) (by decide) (by simp) (by simp) N21 g_r2 (by rw [hml]; rfl) (hb hby d5_60) (by decide) (W := 0) (Nat.le_of_eq rfl) (by decide) ?_
    intro T35 h35 L35 X35 e35 N35 K35q A35
    have sz35 : n0 ≤ h35.size := Nat.le_trans sz21 K35q.1
    have K35 : Keep h0 h35 [a1, r0, r1, r2, r3, r4, r5, r6, r7, r8] := K21.trans K35q (allS (Or.inl (by simp)) all0)
    have V35_0 : own_Arr Z h35 r2 .double [y20, x21, x22] := A35
    show own_Go p e below _ T35 (mkF m 63 #[.val (.ref a1), .val (.ref a2)] [])
    refine own_by (fun t_ k_ => XS.aloadN X35.here hx rfl (hb hby d5_63) rfl rfl k_) ?_
    show own_Go p e below _ T35 (mkF m 64 #[.val (.ref a1), .val (.ref a2)] [(.ref a2)])
    have n45 : a2 ≠ r2 := Nat.ne_of_lt (Nat.lt_trans q0 (Nat.lt_trans q1 (Nat.lt_trans q2 (Nat.lt_trans q3 (Nat.lt_trans q4 (Nat.lt_trans q5 (Nat.lt_trans q6 (Nat.lt_trans q7 (Nat.lt_trans q8 (Nat.lt_trans q9 (Nat.lt_trans q10 (Nat.lt_trans q11 q12))))))))))))
    have Fo_travel_46 : Fld Z h35 a2 "com/example/wayfold/wayfold/engine/DayTiming$Timeline" "travel" "[D" (.ref o3) := (Fld.keep (Fld.keep (Fld.keep (Fld.other W2 Fo_travel (Or.inl n4)) K9q (ninS n15 nin0)) K21q (ninS n29 nin0)) K35q (ninS n45 nin0))
    refine own_getF X35 hx hZ hown (own_w hw 19 rfl) Via.refl e35 Fo_travel_46 (hb hby d5_64) ?_
    intro T44 X44 e44
    show own_Go p e below _ T44 (mkF m 67 #[.val (.ref a1), .val (.ref a2)] [(.ref o3)])
    refine own_by (fun t_ k_ => XS.iconst X44.here hx rfl (hb hby d5_67) k_) ?_
    show own_Go p e below _ T44 (mkF m 68 #[.val (.ref a1), .val (.ref a2)] [(.int (0 : Int32)), (.ref o3)])
    refine own_by (fun t_ k_ => XS.aloadN X44.here hx rfl (hb hby d5_68) rfl rfl k_) ?_
    show own_Go p e below _ T44 (mkF m 69 #[.val (.ref a1), .val (.ref a2)] [(.ref a1), (.int (0 : Int32)), (.ref o3)])
    have Fr_travel_48 : Fld Z h35 a1 "com/example/wayfold/wayfold/engine/DayTiming$Timeline" "travel" "[D" (.ref r3) := (Fld.keep (Fld.keep (Fld.keep (Fld.other W2 Fr_travel (Or.inr (slot_ne (Or.inr (own_w hw 20 rfl)) (Or.inl (own_w hw 32 rfl)) (by decide) (t := (.array .double)) (t' := .int) (by decide) (by decide)))) K9q (ninS n12 nin0)) K21q (ninS n25 nin0)) K35q (ninS n40 nin0))
    refine own_getF X44 hx hZ hown (own_w hw 19 rfl) Via.refl e44 Fr_travel_48 (hb hby d5_69) ?_
    intro T47 X47 e47
    show own_Go p e below _ T47 (mkF m 72 #[.val (.ref a1), .val (.ref a2)] [(.ref r3), (.int (0 : Int32)), (.ref o3)])
    refine own_by (fun t_ k_ => XS.iconst X47.here hx rfl (hb hby d5_72) k_) ?_
    show own_Go p e below _ T47 (mkF m 73 #[.val (.ref a1), .val (.ref a2)] [(.int (0 : Int32)), (.ref r3), (.int (0 : Int32)), (.ref o3)])
    refine own_by (fun t_ k_ => XS.aloadN X47.here hx rfl (hb hby d5_73) rfl rfl k_) ?_
    show own_Go p e below _ T47 (mkF m 74 #[.val (.ref a1), .val (.ref a2)] [(.ref a1), (.int (0 : Int32)), (.ref r3), (.int (0 : Int32)), (.ref o3)])
    have F2_50 : Fld Z h35 a1 "com/example/wayfold/wayfold/engine/DayTiming$Timeline" "length" "I" (.int (0 : Int32)) := (Fld.keep F2_34 K35q (ninS n40 nin0))
    refine own_getF X47 hx hZ hown (own_w hw 54 rfl) Via.refl e47 F2_50 (hb hby d5_74) ?_
    intro T49 X49 e49
    show own_Go p e below _ T49 (mkF m 77 #[.val (.ref a1), .val (.ref a2)] [(.int (0 : Int32)), (.int (0 : Int32)), (.ref r3), (.int (0 : Int32)), (.ref o3)])
    refine own_by (fun t_ k_ => XS.iconst X49.here hx rfl (hb hby d5_77) k_) ?_
    show own_Go p e below _ T49 (mkF m 78 #[.val (.ref a1), .val (.ref a2)] [(.int (1 : Int32)), (.int (0 : Int32)), (.int (0 : Int32)), (.ref r3), (.int (0 : Int32)), (.ref o3)])
    refine own_by (fun t_ k_ => XS.iadd X49.here hx rfl (hb hby d5_78) rfl k_) ?_
    show own_Go p e below _ T49 (mkF m 79 #[.val (.ref a1), .val (.ref a2)] [(.int (1 : Int32)), (.int (0 : Int32)), (.ref r3), (.int (0 : Int32)), (.ref o3)])
    have n52 : o3 ≠ a1 := Nat.ne_of_lt (Nat.lt_trans q4 (Nat.lt_trans q5 (Nat.lt_trans q6 (Nat.lt_trans q7 (Nat.lt_trans q8 q9)))))
    have n53 : o3 ≠ r0 := Nat.ne_of_lt (Nat.lt_trans q4 (Nat.lt_trans q5 (Nat.lt_trans q6 (Nat.lt_trans q7 (Nat.lt_trans q8 (Nat.lt_trans q9 q10))))))
    have n54 : o3 ≠ r1 := Nat.ne_of_lt (Nat.lt_trans q4 (Nat.lt_trans q5 (Nat.lt_trans q6 (Nat.lt_trans q7 (Nat.lt_trans q8 (Nat.lt_trans q9 (Nat.lt_trans q10 q11)))))))
    have n55 : o3 ≠ r2 := Nat.ne_of_lt (Nat.lt_trans q4 (Nat.lt_trans q5 (Nat.lt_trans q6 (Nat.lt_trans q7 (Nat.lt_trans q8 (Nat.lt_trans q9 (Nat.lt_trans q10 (Nat.lt_trans q11 q12))))))))
    have Vo3_56 : own_Arr Z h35 o3 .double [y30, y31, y32] := (own_Arr.keep (own_Arr.keep (own_Arr.keep (own_Arr.other Vo3 W2 n52) K9q (ninS n53 nin0)) K21q (ninS n54 nin0)) K35q (ninS n55 nin0))
    have n57 : a1 ≠ r3 := Nat.ne_of_lt (Nat.lt_trans q10 (Nat.lt_trans q11 (Nat.lt_trans q12 q13)))
    have n58 : r0 ≠ r3 := Nat.ne_of_lt (Nat.lt_trans q11 (Nat.lt_trans q12 q13))
    have n59 : r1 ≠ r3 := Nat.ne_of_lt (Nat.lt_trans q12 q13)
    have n60 : r2 ≠ r3 := Nat.ne_of_lt q13
    have Vr3_61 : own_Arr Z h35 r3 .double [x30, x31, x32] := (own_Arr.keep (own_Arr.keep (own_Arr.keep (own_Arr.other Vr3 W2 (Ne.symm n57)) K9q (ninS (Ne.symm n58) nin0)) K21q (ninS (Ne.symm n59) nin0)) K35q (ninS (Ne.symm n60) nin0))
    refine own_cpA X49 hx hZ hown (own_w hw 55 rfl) (own_w hw 58 rfl) (own_w hw 56 rfl) (own_w hw 57 rfl) e49 Vo3_56 Vr3_61 rfl 0 0 1 (by decide) (by decide) (by decide) (by simp) (by simp) N35 g_r3 (by rw [hml]; rfl) (hb hby d5_79) (by decide) (W := 0) (Nat.le_of_eq rfl) (by decide) ?_
    intro T51 h51 L51 X51 e51 N51 K51q A51
    have sz51 : n0 ≤ h51.size := Nat.le_trans sz35 K51q.1
    have K51 : Keep h0 h51 [a1, r0, r1, r2, r3, r4, r5, r6, r7, r8] := K35.trans K51q (allS (Or.inl (by simp)) all0)
    have V51_0 : own_Arr Z h51 r3 .double [y30, x31, x32] := A51
    show own_Go p e below _ T51 (mkF m 82 #[.val (.ref a1), .val (.ref a2)] [])
    refine own_by (fun t_ k_ => XS.aloadN X51.here hx rfl (hb hby d5_82) rfl rfl k_) ?_
    show own_Go p e below _ T51 (mkF m 83 #[.val (.ref a1), .val (.ref a2)] [(.ref a2)])
    have n63 : a2 ≠ r3 := Nat.ne_of_lt (Nat.lt_trans q0 (Nat.lt_trans q1 (Nat.lt_trans q2 (Nat.lt_trans q3 (Nat.lt_trans q4 (Nat.lt_trans q5 (Nat.lt_trans q6 (Nat.lt_trans q7 (Nat.lt_trans q8 (Nat.lt_trans q9 (Nat.lt_trans q10 (Nat.lt_trans q11 (Nat.lt_trans q12 q13)))))))))))))
    have Fo_visit_64 : Fld Z h51 a2 "com/example/wayfold/wayfold/engine/DayTiming$Timeline" "visit" "[D" (.ref o4) := (Fld.keep (Fld.keep (Fld.keep (Fld.keep (Fld.other W2 Fo_visit (Or.inl n4)) K9q (ninS n15 nin0)) K21q (ninS n29 nin0)) K35q (ninS n45 nin0)) K51q (ninS n63 nin0))
    refine own_getF X51 hx hZ hown (own_w hw 21 rfl) Via.refl e51 Fo_visit_64 (hb hby d5_83) ?_
    intro T62 X62 e62
    show own_Go p e below _ T62 (mkF m 86 #[.val (.ref a1), .val (.ref a2)] [(.ref o4)])
    refine own_by (fun t_ k_ => XS.iconst X62.here hx rfl (hb hby d5_86) k_) ?_
    show own_Go p e below _ T62 (mkF m 87 #[.val (.ref a1), .val (.ref a2)] [(.int (0 : Int32)), (.ref o4)])
    refine own_by (fun t_ k_ => XS.aloadN X62.here hx rfl (hb hby d5_87) rfl rfl k_) ?_
    show own_Go p e below _ T62 (mkF m 88 #[.val (.ref a1), .val (.ref a2)] [(.ref a1), (.int (0 : Int32)), (.ref o4)])
    have Fr_visit_66 : Fld Z h51 a1 "com/example/wayfold/wayfold/engine/DayTiming$Timeline" "visit" "[D" (.ref r4) := (Fld.keep (Fld.keep (Fld.keep (Fld.keep (Fld.other W2 Fr_visit (Or.inr (slot_ne (Or.inr (own_w hw 22 rfl)) (Or.inl (own_w hw 32 rfl)) (by decide) (t := (.array .double)) (t' := .int) (by decide) (by decide)))) K9q (ninS n12 nin0)) K21q (ninS n25 nin0)) K35q (ninS n40 nin0)) K51q (ninS n57 nin0))
    refine own_getF X62 hx hZ hown (own_w hw 21 rfl) Via.refl e62 Fr_visit_66 (hb hby d5_88) ?_
    intro T65 X65 e65
    show own_Go p e below _ T65 (mkF m 91 #[.val (.ref a1), .val (.ref a2)] [(.ref r4), (.int (0 : Int32)), (.ref o4)])
    refine own_by (fun t_ k_ => XS.iconst X65.here hx rfl (hb hby d5_91) k_) ?_
    show own_Go p e below _ T65 (mkF m 92 #[.val (.ref a1), .val (.ref a2)] [(.int (0 : Int32)), (.ref r4), (.int (0 : Int32)), (.ref o4)])
    refine own_by (fun t_ k_ => XS.aloadN X65.here hx rfl (hb hby d5_92) rfl rfl k_) ?_
    show own_Go p e below _ T65 (mkF m 93 #[.val (.ref a1), .val (.ref a2)] [(.ref a1), (.int (0 : Int32)), (.ref r4), (.int (0 : Int32)), (.ref o4)])
    have F2_68 : Fld Z h51 a1 "com/example/wayfold/wayfold/engine/DayTiming$Timeline" "length" "I" (.int (0 : Int32)) := (Fld.keep F2_50 K51q (ninS n57 nin0))
    refine own_getF X65 hx hZ hown (own_w hw 54 rfl) Via.refl e65 F2_68 (hb hby d5_93) ?_
    intro T67 X67 e67
    show own_Go p e below _ T67 (mkF m 96 #[.val (.ref a1), .val (.ref a2)] [(.int (0 : Int32)), (.int (0 : Int32)), (.ref r4), (.int (0 : Int32)), (.ref o4)])
    refine own_by (fun t_ k_ => XS.iconst X67.here hx rfl (hb hby d5_96) k_) ?_
    show own_Go p e below _ T67 (mkF m 97 #[.val (.ref a1), .val (.ref a2)] [(.int (1 : Int32)), (.int (0 : Int32)), (.int (0 : Int32)), (.ref r4), (.int (0 : Int32)), (.ref o4)])
    refine own_by (fun t_ k_ => XS.iadd X67.here hx rfl (hb hby d5_97) rfl k_) ?_
    show own_Go p e below _ T67 (mkF m 98 #[.val (.ref a1), .val (.ref a2)] [(.int (1 : Int32)), (.int (0 : Int32)), (.ref r4), (.int (0 : Int32)), (.ref o4)])
    have n70 : o4 ≠ a1 := Nat.ne_of_lt (Nat.lt_trans q5 (Nat.lt_trans q6 (Nat.lt_trans q7 (Nat.lt_trans q8 q9))))
    have n71 : o4 ≠ r0 := Nat.ne_of_lt (Nat.lt_trans q5 (Nat.lt_trans q6 (Nat.lt_trans q7 (Nat.lt_trans q8 (Nat.lt_trans q9 q10)))))
    have n72 : o4 ≠ r1 := Nat.ne_of_lt (Nat.lt_trans q5 (Nat.lt_trans q6 (Nat.lt_trans q7 (Nat.lt_trans q8 (Nat.lt_trans q9 (Nat.lt_trans q10 q11))))))
    have n73 : o4 ≠ r2 := Nat.ne_of_lt (Nat.lt_trans q5 (Nat.lt_trans q6 (Nat.lt_trans q7 (Nat.lt_trans q8 (Nat.lt_trans q9 (Nat.lt_trans q10 (Nat.lt_trans q11 q12)))))))
    have n74 : o4 ≠ r3 := Nat.ne_of_lt (Nat.lt_trans q5 (Nat.lt_trans q6 (Nat.lt_trans q7 (Nat.lt_trans q8 (Nat.lt_trans q9 (Nat.lt_trans q10 (Nat.lt_trans q11 (Nat.lt_trans q12 q13))))))))
    have Vo4_75 : own_Arr Z h51 o4 .double [y40, y41, y42] := (own_Arr.keep (own_Arr.keep (own_Arr.keep (own_Arr.keep (own_Arr.other Vo4 W2 n70) K9q (ninS n71 nin0)) K21q (ninS n72 nin0)) K35q (ninS n73 nin0)) K51q (ninS n74 nin0))
    have n76 : a1 ≠ r4 := Nat.ne_of_lt (Nat.lt_trans q10 (Nat.lt_trans q11 (Nat.lt_trans q12 (Nat.lt_trans q13 q14))))
    have n77 : r0 ≠ r4 := Nat.ne_of_lt (Nat.lt_trans q11 (Nat.lt_trans q12 (Nat.lt_trans q13 q14)))
    have n78 : r1 ≠ r4 := Nat.ne_of_lt (Nat.lt_trans q12 (Nat.lt_trans q13 q14))
    have n79 : r2 ≠ r4 := Nat.ne_of_lt (Nat.lt_trans q13 q14)
    have n80 : r3 ≠ r4 := Nat.ne_of_lt q14
    have Vr4_81 : own_Arr Z h51 r4 .double [x40, x41, x42] := (own_Arr.keep (own_Arr.keep (own_Arr.keep (own_Arr.keep (own_Arr.other Vr4 W2 (Ne.symm n76)) K9q (ninS (Ne.symm n77) nin0)) K21q (ninS (Ne.symm n78) nin0)) K35q (ninS (Ne.symm n79) nin0)) K51q (ninS (Ne.symm n80) nin0))
    refine own_cpA X67 hx hZ hown (own_w hw 55 rfl) (own_w hw 58 rfl) (own_w hw 56 rfl) (own_w hw 57 rfl) e67 Vo4_75 Vr4_81 rfl 0 0 1 (by decide) (by decide) (by decide) (by simp) (by simp) N51 g_r4 (by rw [hml]; rfl) (hb hby d5_98) (by decide) (W := 0) (Nat.le_of_eq rfl) (by decide) ?_
    intro T69 h69 L69 X69 e69 N69 K69q A69
    have sz69 : n0 ≤ h69.size := Nat.le_trans sz51 K69q.1
    have K69 : Keep h0 h69 [a1, r0, r1, r2, r3, r4, r5, r6, r7, r8] := K51.trans K69q (allS (Or.inl (by simp)) all0)
    have V69_0 : own_Arr Z h69 r4 .double [y40, x41, x42] := A69
    show own_Go p e below _ T69 (mkF m 101 #[.val (.ref a1), .val (.ref a2)] [])
    refine own_by (fun t_ k_ => XS.aloadN X69.here hx rfl (hb hby d5_101) rfl rfl k_) ?_
    show own_Go p e below _ T69 (mkF m 102 #[.val (.ref a1), .val (.ref a2)] [(.ref a2)])
    have n83 : a2 ≠ r4 := Nat.ne_of_lt (Nat.lt_trans q0 (Nat.lt_trans q1 (Nat.lt_trans q2 (Nat.lt_trans q3 (Nat.lt_trans q4 (Nat.lt_trans q5 (Nat.lt_trans q6 (Nat.lt_trans q7 (Nat.lt_trans q8 (Nat.lt_trans q9 (Nat.lt_trans q10 (Nat.lt_trans q11 (Nat.lt_trans q12 (Nat.lt_trans q13 q14))))))))))))))
    have Fo_waiting_84 : Fld Z h69 a2 "com/example/wayfold/wayfold/engine/DayTiming$Timeline" "waiting" "[D" (.ref o5) := (Fld.keep (Fld.keep (Fld.keep (Fld.keep (Fld.keep (Fld.other W2 Fo_waiting (Or.inl n4)) K9q (ninS n15 nin0)) K21q (ninS n29 nin0)) K35q (ninS n45 nin0)) K51q (ninS n63 nin0)) K69q (ninS n83 nin0))
    refine own_getF X69 hx hZ hown (own_w hw 23 rfl) Via.refl e69 Fo_waiting_84 (hb hby d5_102) ?_
    intro T82 X82 e82
    show own_Go p e below _ T82 (mkF m 105 #[.val (.ref a1), .val (.ref a2)] [(.ref o5)])
    refine own_by (fun t_ k_ => XS.iconst X82.here hx rfl (hb hby d5_105) k_) ?_
    show own_Go p e below _ T82 (mkF m 106 #[.val (.ref a1), .val (.ref a2)] [(.int (0 : Int32)), (.ref o5)])
    refine own_by (fun t_ k_ => XS.aloadN X82.here hx rfl (hb hby d5_106) rfl rfl k_) ?_
    show own_Go p e below _ T82 (mkF m 107 #[.val (.ref a1), .val (.ref a2)] [(.ref a1), (.int (0 : Int32)), (.ref o5)])
    have Fr_waiting_86 : Fld Z h69 a1 "com/example/wayfold/wayfold/engine/DayTiming$Timeline" "waiting" "[D" (.ref r5) := (Fld.keep (Fld.keep (Fld.keep (Fld.keep (Fld.keep (Fld.other W2 Fr_waiting (Or.inr (slot_ne (Or.inr (own_w hw 24 rfl)) (Or.inl (own_w hw 32 rfl)) (by decide) (t := (.array .double)) (t' := .int) (by decide) (by decide)))) K9q (ninS n12 nin0)) K21q (ninS n25 nin0)) K35q (ninS n40 nin0)) K51q (ninS n57 nin0)) K69q (ninS n76 nin0))
    refine own_getF X82 hx hZ hown (own_w hw 23 rfl) Via.refl e82 Fr_waiting_86 (hb hby d5_107) ?_
    intro T85 X85 e85
    show own_Go p e below _ T85 (mkF m 110 #[.val (.ref a1), .val (.ref a2)] [(.ref r5), (.int (0 : Int32)), (.ref o5)])
    refine own_by (fun t_ k_ => XS.iconst X85.here hx rfl (hb hby d5_110) k_) ?_
    show own_Go p e below _ T85 (mkF m 111 #[.val (.ref a1), .val (.ref a2)] [(.int (0 : Int32)), (.ref r5), (.int (0 : Int32)), (.ref o5)])
    refine own_by (fun t_ k_ => XS.aloadN X85.here hx rfl (hb hby d5_111) rfl rfl k_) ?_
    show own_Go p e below _ T85 (mkF m 112 #[.val (.ref a1), .val (.ref a2)] [(.ref a1), (.int (0 : Int32)), (.ref r5), (.int (0 : Int32)), (.ref o5)])
    have F2_88 : Fld Z h69 a1 "com/example/wayfold/wayfold/engine/DayTiming$Timeline" "length" "I" (.int (0 : Int32)) := (Fld.keep F2_68 K69q (ninS n76 nin0))
    refine own_getF X85 hx hZ hown (own_w hw 54 rfl) Via.refl e85 F2_88 (hb hby d5_112) ?_
    intro T87 X87 e87
    show own_Go p e below _ T87 (mkF m 115 #[.val (.ref a1), .val (.ref a2)] [(.int (0 : Int32)), (.int (0 : Int32)), (.ref r5), (.int (0 : Int32)), (.ref o5)])
    refine own_by (fun t_ k_ => XS.iconst X87.here hx rfl (hb hby d5_115) k_) ?_
    show own_Go p e below _ T87 (mkF m 116 #[.val (.ref a1), .val (.ref a2)] [(.int (1 : Int32)), (.int (0 : Int32)), (.int (0 : Int32)), (.ref r5), (.int (0 : Int32)), (.ref o5)])
    refine own_by (fun t_ k_ => XS.iadd X87.here hx rfl (hb hby d5_116) rfl k_) ?_
    show own_Go p e below _ T87 (mkF m 117 #[.val (.ref a1), .val (.ref a2)] [(.int (1 : Int32)), (.int (0 : Int32)), (.ref r5), (.int (0 : Int32)), (.ref o5)])
    have n90 : o5 ≠ a1 := Nat.ne_of_lt (Nat.lt_trans q6 (Nat.lt_trans q7 (Nat.lt_trans q8 q9)))
    have n91 : o5 ≠ r0 := Nat.ne_of_lt (Nat.lt_trans q6 (Nat.lt_trans q7 (Nat.lt_trans q8 (Nat.lt_trans q9 q10))))
    have n92 : o5 ≠ r1 := Nat.ne_of_lt (Nat.lt_trans q6 (Nat.lt_trans q7 (Nat.lt_trans q8 (Nat.lt_trans q9 (Nat.lt_trans q10 q11)))))
    have n93 : o5 ≠ r2 := Nat.ne_of_lt (Nat.lt_trans q6 (Nat.lt_trans q7 (Nat.lt_trans q8 (Nat.lt_trans q9 (Nat.lt_trans q10 (Nat.lt_trans q11 q12))))))
    have n94 : o5 ≠ r3 := Nat.ne_of_lt (Nat.lt_trans q6 (Nat.lt_trans q7 (Nat.lt_trans q8 (Nat.lt_trans q9 (Nat.lt_trans q10 (Nat.lt_trans q11 (Nat.lt_trans q12 q13)))))))
    have n95 : o5 ≠ r4 := Nat.ne_of_lt (Nat.lt_trans q6 (Nat.lt_trans q7 (Nat.lt_trans q8 (Nat.lt_trans q9 (Nat.lt_trans q10 (Nat.lt_trans q11 (Nat.lt_trans q12 (Nat.lt_trans q13 q14))))))))
    have Vo5_96 : own_Arr Z h69 o5 .double [y50, y51, y52] := (own_Arr.keep (own_Arr.keep (own_Arr.keep (own_Arr.keep (own_Arr.keep (own_Arr.other Vo5 W2 n90) K9q (ninS n91 nin0)) K21q (ninS n92 nin0)) K35q (ninS n93 nin0)) K51q (ninS n94 nin0)) K69q (ninS n95 nin0))
    have n97 : a1 ≠ r5 := Nat.ne_of_lt (Nat.lt_trans q10 (Nat.lt_trans q11 (Nat.lt_trans q12 (Nat.lt_trans q13 (Nat.lt_trans q14 q15)))))
    have n98 : r0 ≠ r5 := Nat.ne_of_lt (Nat.lt_trans q11 (Nat.lt_trans q12 (Nat.lt_trans q13 (Nat.lt_trans q14 q15))))
    have n99 : r1 ≠ r5 := Nat.ne_of_lt (Nat.lt_trans q12 (Nat.lt_trans q13 (Nat.lt_trans q14 q15)))
    have n100 : r2 ≠ r5 := Nat.ne_of_lt (Nat.lt_trans q13 (Nat.lt_trans q14 q15))
    have n101 : r3 ≠ r5 := Nat.ne_of_lt (Nat.lt_trans q14 q15)
    have n102 : r4 ≠ r5 := Nat.ne_of_lt q15
    have Vr5_103 : own_Arr Z h69 r5 .double [x50, x51, x52] := (own_Arr.keep (own_Arr.keep (own_Arr.keep (own_Arr.keep (own_Arr.keep (own_Arr.other Vr5 W2 (Ne.symm n97)) K9q (ninS (Ne.symm n98) nin0)) K21q (ninS (Ne.symm n99) nin0)) K35q (ninS (Ne.symm n100) nin0)) K51q (ninS (Ne.symm n101) nin0)) K69q (ninS (Ne.symm n102) nin0))
    refine own_cpA X87 hx hZ hown (own_w hw 55 rfl) (own_w hw 58 rfl) (own_w hw 56 rfl) (own_w hw 57 rfl) e87 Vo5_96 Vr5_103 rfl 0 0 1 (by decide) (by decide) (by decide) (by simp) (by simp) N69 g_r5 (by rw [hml]; rfl) (hb hby d5_117) (by decide) (W := 0) (Nat.le_of_eq rfl) (by decide) ?_
    intro T89 h89 L89 X89 e89 N89 K89q A89
    have sz89 : n0 ≤ h89.size := Nat.le_trans sz69 K89q.1
    have K89 : Keep h0 h89 [a1, r0, r1, r2, r3, r4, r5, r6, r7, r8] := K69.trans K89q (allS (Or.inl (by simp)) all0)
    have V89_0 : own_Arr Z h89 r5 .double [y50, x51, x52] := A89
    show own_Go p e below _ T89 (mkF m 120 #[.val (.ref a1), .val (.ref a2)] [])
    refine own_by (fun t_ k_ => XS.aloadN X89.here hx rfl (hb hby d5_120) rfl rfl k_) ?_
    show own_Go p e below _ T89 (mkF m 121 #[.val (.ref a1), .val (.ref a2)] [(.ref a2)])
    have n105 : a2 ≠ r5 := Nat.ne_of_lt (Nat.lt_trans q0 (Nat.lt_trans q1 (Nat.lt_trans q2 (Nat.lt_trans q3 (Nat.lt_trans q4 (Nat.lt_trans q5 (Nat.lt_trans q6 (Nat.lt_trans q7 (Nat.lt_trans q8 (Nat.lt_trans q9 (Nat.lt_trans q10 (Nat.lt_trans q11 (Nat.lt_trans q12 (Nat.lt_trans q13 (Nat.lt_trans q14 q15)))))))))))))))
    have Fo_load_106 : Fld Z h89 a2 "com/example/wayfold/wayfold/engine/DayTiming$Timeline" "load" "[D" (.ref o6) := (Fld.keep (Fld.keep (Fld.keep (Fld.keep (Fld.keep (Fld.keep (Fld.other W2 Fo_load (Or.inl n4)) K9q (ninS n15 nin0)) K21q (ninS n29 nin0)) K35q (ninS n45 nin0)) K51q (ninS n63 nin0)) K69q (ninS n83 nin0)) K89q (ninS n105 nin0))
    refine own_getF X89 hx hZ hown (own_w hw 25 rfl) Via.refl e89 Fo_load_106 (hb hby d5_121) ?_
    intro T104 X104 e104
    show own_Go p e below _ T104 (mkF m 124 #[.val (.ref a1), .val (.ref a2)] [(.ref o6)])
    refine own_by (fun t_ k_ => XS.iconst X104.here hx rfl (hb hby d5_124) k_) ?_
    show own_Go p e below _ T104 (mkF m 125 #[.val (.ref a1), .val (.ref a2)] [(.int (0 : Int32)), (.ref o6)])
    refine own_by (fun t_ k_ => XS.aloadN X104.here hx rfl (hb hby d5_125) rfl rfl k_) ?_
    show own_Go p e below _ T104 (mkF m 126 #[.val (.ref a1), .val (.ref a2)] [(.ref a1), (.int (0 : Int32)), (.ref o6)])
    have Fr_load_108 : Fld Z h89 a1 "com/example/wayfold/wayfold/engine/DayTiming$Timeline" "load" "[D" (.ref r6) := (Fld.keep (Fld.keep (Fld.keep (Fld.keep (Fld.keep (Fld.keep (Fld.other W2 Fr_load (Or.inr (slot_ne (Or.inr (own_w hw 26 rfl)) (Or.inl (own_w hw 32 rfl)) (by decide) (t := (.array .double)) (t' := .int) (by decide) (by decide)))) K9q (ninS n12 nin0)) K21q (ninS n25 nin0)) K35q (ninS n40 nin0)) K51q (ninS n57 nin0)) K69q (ninS n76 nin0)) K89q (ninS n97 nin0))
    refine own_getF X104 hx hZ hown (own_w hw 25 rfl) Via.refl e104 Fr_load_108 (hb hby d5_126) ?_
    intro T107 X107 e107
    show own_Go p e below _ T107 (mkF m 129 #[.val (.ref a1), .val (.ref a2)] [(.ref r6), (.int (0 : Int32)), (.ref o6)])
    refine own_by (fun t_ k_ => XS.iconst X107.here hx rfl (hb hby d5_129) k_) ?_
    show own_Go p e below _ T107 (mkF m 130 #[.val (.ref a1), .val (.ref a2)] [(.int (0 : Int32)), (.ref r6), (.int (0 : Int32)), (.ref o6)])
    refine own_by (fun t_ k_ => XS.aloadN X107.here hx rfl (hb hby d5_130) rfl rfl k_) ?_
    show own_Go p e below _ T107 (mkF m 131 #[.val (.ref a1), .val (.ref a2)] [(.ref a1), (.int (0 : Int32)), (.ref r6), (.int (0 : Int32)), (.ref o6)])
    have F2_110 : Fld Z h89 a1 "com/example/wayfold/wayfold/engine/DayTiming$Timeline" "length" "I" (.int (0 : Int32)) := (Fld.keep F2_88 K89q (ninS n97 nin0))
    refine own_getF X107 hx hZ hown (own_w hw 54 rfl) Via.refl e107 F2_110 (hb hby d5_131) ?_
    intro T109 X109 e109
    show own_Go p e below _ T109 (mkF m 134 #[.val (.ref a1), .val (.ref a2)] [(.int (0 : Int32)), (.int (0 : Int32)), (.ref r6), (.int (0 : Int32)), (.ref o6)])
    refine own_by (fun t_ k_ => XS.iconst X109.here hx rfl (hb hby d5_134) k_) ?_
    show own_Go p e below _ T109 (mkF m 135 #[.val (.ref a1), .val (.ref a2)] [(.int (1 : Int32)), (.int (0 : Int32)), (.int (0 : Int32)), (.ref r6), (.int (0 : Int32)), (.ref o6)])
    refine own_by (fun t_ k_ => XS.iadd X109.here hx rfl (hb hby d5_135) rfl k_) ?_
    show own_Go p e below _ T109 (mkF m 136 #[.val (.ref a1), .val (.ref a2)] [(.int (1 : Int32)), (.int (0 : Int32)), (.ref r6), (.int (0 : Int32)), (.ref o6)])
    have n112 : o6 ≠ a1 := Nat.ne_of_lt (Nat.lt_trans q7 (Nat.lt_trans q8 q9))
    have n113 : o6 ≠ r0 := Nat.ne_of_lt (Nat.lt_trans q7 (Nat.lt_trans q8 (Nat.lt_trans q9 q10)))
    have n114 : o6 ≠ r1 := Nat.ne_of_lt (Nat.lt_trans q7 (Nat.lt_trans q8 (Nat.lt_trans q9 (Nat.lt_trans q10 q11))))
    have n115 : o6 ≠ r2 := Nat.ne_of_lt (Nat.lt_trans q7 (Nat.lt_trans q8 (Nat.lt_trans q9 (Nat.lt_trans q10 (Nat.lt_trans q11 q12)))))
    have n116 : o6 ≠ r3 := Nat.ne_of_lt (Nat.lt_trans q7 (Nat.lt_trans q8 (Nat.lt_trans q9 (Nat.lt_trans q10 (Nat.lt_trans q11 (Nat.lt_trans q12 q13))))))
    have n117 : o6 ≠ r4 := Nat.ne_of_lt (Nat.lt_trans q7 (Nat.lt_trans q8 (Nat.lt_trans q9 (Nat.lt_trans q10 (Nat.lt_trans q11 (Nat.lt_trans q12 (Nat.lt_trans q13 q14)))))))
    have n118 : o6 ≠ r5 := Nat.ne_of_lt (Nat.lt_trans q7 (Nat.lt_trans q8 (Nat.lt_trans q9 (Nat.lt_trans q10 (Nat.lt_trans q11 (Nat.lt_trans q12 (Nat.lt_trans q13 (Nat.lt_trans q14 q15))))))))
    have Vo6_119 : own_Arr Z h89 o6 .double [y60, y61, y62] := (own_Arr.keep (own_Arr.keep (own_Arr.keep (own_Arr.keep (own_Arr.keep (own_Arr.keep (own_Arr.other Vo6 W2 n112) K9q (ninS n113 nin0)) K21q (ninS n114 nin0)) K35q (ninS n115 nin0)) K51q (ninS n116 nin0)) K69q (ninS n117 nin0)) K89q (ninS n118 nin0))
    have n120 : a1 ≠ r6 := Nat.ne_of_lt (Nat.lt_trans q10 (Nat.lt_trans q11 (Nat.lt_trans q12 (Nat.lt_trans q13 (Nat.lt_trans q14 (Nat.lt_trans q15 q16))))))
    have n121 : r0 ≠ r6 := Nat.ne_of_lt (Nat.lt_trans q11 (Nat.lt_trans q12 (Nat.lt_trans q13 (Nat.lt_trans q14 (Nat.lt_trans q15 q16)))))
    have n122 : r1 ≠ r6 := Nat.ne_of_lt (Nat.lt_trans q12 (Nat.lt_trans q13 (Nat.lt_trans q14 (Nat.lt_trans q15 q16))))
    have n123 : r2 ≠ r6 := Nat.ne_of_lt (Nat.lt_trans q13 (Nat.lt_trans q14 (Nat.lt_trans q15 q16)))
    have n124 : r3 ≠ r6 := Nat.ne_of_lt (Nat.lt_trans q14 (Nat.lt_trans q15 q16))
    have n125 : r4 ≠ r6 := Nat.ne_of_lt (Nat.lt_trans q15 q16)
    have n126 : r5 ≠ r6 := Nat.ne_of_lt q16
    have Vr6_127 : own_Arr Z h89 r6 .double [x60, x61, x62] := (own_Arr.keep (own_Arr.keep (own_Arr.keep (own_Arr.keep (own_Arr.keep (own_Arr.keep (own_Arr.other Vr6 W2 (Ne.symm n120)) K9q (ninS (Ne.symm n121) nin0)) K21q (ninS (Ne.symm n122) nin0)) K35q (ninS (Ne.symm n123) nin0)) K51q (ninS (Ne.symm n124) nin0)) K69q (ninS (Ne.symm n125) nin0)) K89q (ninS (Ne.symm n126) nin0))
    refine own_cpA X109 hx hZ hown (own_w hw 55 rfl) (own_w hw 58 rfl) (own_w hw 56 rfl) (own_w hw 57 rfl) e109 Vo6_119 Vr6_127 rfl 0 0 1 (by decide) (by decide) (by decide) (by simp) (by simp) N89 g_r6 (by rw [hml]; rfl) (hb hby d5_136) (by decide) (W := 0) (Nat.le_of_eq rfl) (by decide) ?_
    intro T111 h111 L111 X111 e111 N111 K111q A111
    have sz111 : n0 ≤ h111.size := Nat.le_trans sz89 K111q.1
    have K111 : Keep h0 h111 [a1, r0, r1, r2, r3, r4, r5, r6, r7, r8] := K89.trans K111q (allS (Or.inl (by simp)) all0)
    have V111_0 : own_Arr Z h111 r6 .double [y60, x61, x62] := A111
    show own_Go p e below _ T111 (mkF m 139 #[.val (.ref a1), .val (.ref a2)] [])
    refine own_by (fun t_ k_ => XS.aloadN X111.here hx rfl (hb hby d5_139) rfl rfl k_) ?_
    show own_Go p e below _ T111 (mkF m 140 #[.val (.ref a1), .val (.ref a2)] [(.ref a2)])
    have n129 : a2 ≠ r6 := Nat.ne_of_lt (Nat.lt_trans q0 (Nat.lt_trans q1 (Nat.lt_trans q2 (Nat.lt_trans q3 (Nat.lt_trans q4 (Nat.lt_trans q5 (Nat.lt_trans q6 (Nat.lt_trans q7 (Nat.lt_trans q8 (Nat.lt_trans q9 (Nat.lt_trans q10 (Nat.lt_trans q11 (Nat.lt_trans q12 (Nat.lt_trans q13 (Nat.lt_trans q14 (Nat.lt_trans q15 q16))))))))))))))))
    have Fo_latest_130 : Fld Z h111 a2 "com/example/wayfold/wayfold/engine/DayTiming$Timeline" "latest" "[D" (.ref o7) := (Fld.keep (Fld.keep (Fld.keep (Fld.keep (Fld.keep (Fld.keep (Fld.keep (Fld.other W2 Fo_latest (Or.inl n4)) K9q (ninS n15 nin0)) K21q (ninS n29 nin0)) K35q (ninS n45 nin0)) K51q (ninS n63 nin0)) K69q (ninS n83 nin0)) K89q (ninS n105 nin0)) K111q (ninS n129 nin0))
    refine own_getF X111 hx hZ hown (own_w hw 27 rfl) Via.refl e111 Fo_latest_130 (hb hby d5_140) ?_
    intro T128 X128 e128
    show own_Go p e below _ T128 (mkF m 143 #[.val (.ref a1), .val (.ref a2)] [(.ref o7)])
    refine own_by (fun t_ k_ => XS.iconst X128.here hx rfl (hb hby d5_143) k_) ?_
    show own_Go p e below _ T128 (mkF m 144 #[.val (.ref a1), .val (.ref a2)] [(.int (0 : Int32)), (.ref o7)])
    refine own_by (fun t_ k_ => XS.aloadN X128.here hx rfl (hb hby d5_144) rfl rfl k_) ?_
    show own_Go p e below _ T128 (mkF m 145 #[.val (.ref a1), .val (.ref a2)] [(.ref a1), (.int (0 : Int32)), (.ref o7)])
    have Fr_latest_132 : Fld Z h111 a1 "com/example/wayfold/wayfold/engine/DayTiming$Timeline" "latest" "[D" (.ref r7) := (Fld.keep (Fld.keep (Fld.keep (Fld.keep (Fld.keep (Fld.keep (Fld.keep (Fld.other W2 Fr_latest (Or.inr (slot_ne (Or.inr (own_w hw 28 rfl)) (Or.inl (own_w hw 32 rfl)) (by decide) (t := (.array .double)) (t' := .int) (by decide) (by decide)))) K9q (ninS n12 nin0)) K21q (ninS n25 nin0)) K35q (ninS n40 nin0)) K51q (ninS n57 nin0)) K69q (ninS n76 nin0)) K89q (ninS n97 nin0)) K111q (ninS n120 nin0))
    refine own_getF X128 hx hZ hown (own_w hw 27 rfl) Via.refl e128 Fr_latest_132 (hb hby d5_145) ?_
    intro T131 X131 e131
    show own_Go p e below _ T131 (mkF m 148 #[.val (.ref a1), .val (.ref a2)] [(.ref r7), (.int (0 : Int32)), (.ref o7)])
    refine own_by (fun t_ k_ => XS.iconst X131.here hx rfl (hb hby d5_148) k_) ?_
    show own_Go p e below _ T131 (mkF m 149 #[.val (.ref a1), .val (.ref a2)] [(.int (0 : Int32)), (.ref r7), (.int (0 : Int32)), (.ref o7)])
    refine own_by (fun t_ k_ => XS.aloadN X131.here hx rfl (hb hby d5_149) rfl rfl k_) ?_
    show own_Go p e below _ T131 (mkF m 150 #[.val (.ref a1), .val (.ref a2)] [(.ref a1), (.int (0 : Int32)), (.ref r7), (.int (0 : Int32)), (.ref o7)])
    have F2_134 : Fld Z h111 a1 "com/example/wayfold/wayfold/engine/DayTiming$Timeline" "length" "I" (.int (0 : Int32)) := (Fld.keep F2_110 K111q (ninS n120 nin0))
    refine own_getF X131 hx hZ hown (own_w hw 54 rfl) Via.refl e131 F2_134 (hb hby d5_150) ?_
    intro T133 X133 e133
    show own_Go p e below _ T133 (mkF m 153 #[.val (.ref a1), .val (.ref a2)] [(.int (0 : Int32)), (.int (0 : Int32)), (.ref r7), (.int (0 : Int32)), (.ref o7)])
    refine own_by (fun t_ k_ => XS.iconst X133.here hx rfl (hb hby d5_153) k_) ?_
    show own_Go p e below _ T133 (mkF m 154 #[.val (.ref a1), .val (.ref a2)] [(.int (1 : Int32)), (.int (0 : Int32)), (.int (0 : Int32)), (.ref r7), (.int (0 : Int32)), (.ref o7)])
    refine own_by (fun t_ k_ => XS.iadd X133.here hx rfl (hb hby d5_154) rfl k_) ?_
    show own_Go p e below _ T133 (mkF m 155 #[.val (.ref a1), .val (.ref a2)] [(.int (1 : Int32)), (.int (0 : Int32)), (.ref r7), (.int (0 : Int32)), (.ref o7)])
    have n136 : o7 ≠ a1 := Nat.ne_of_lt (Nat.lt_trans q8 q9)
    have n137 : o7 ≠ r0 := Nat.ne_of_lt (Nat.lt_trans q8 (Nat.lt_trans q9 q10))
    have n138 : o7 ≠ r1 := Nat.ne_of_lt (Nat.lt_trans q8 (Nat.lt_trans q9 (Nat.lt_trans q10 q11)))
    have n139 : o7 ≠ r2 := Nat.ne_of_lt (Nat.lt_trans q8 (Nat.lt_trans q9 (Nat.lt_trans q10 (Nat.lt_trans q11 q12))))
    have n140 : o7 ≠ r3 := Nat.ne_of_lt (Nat.lt_trans q8 (Nat.lt_trans q9 (Nat.lt_trans q10 (Nat.lt_trans q11 (Nat.lt_trans q12 q13)))))
    have n141 : o7 ≠ r4 := Nat.ne_of_lt (Nat.lt_trans q8 (Nat.lt_trans q9 (Nat.lt_trans q10 (Nat.lt_trans q11 (Nat.lt_trans q12 (Nat.lt_trans q13 q14))))))
    have n142 : o7 ≠ r5 := Nat.ne_of_lt (Nat.lt_trans q8 (Nat.lt_trans q9 (Nat.lt_trans q10 (Nat.lt_trans q11 (Nat.lt_trans q12 (Nat.lt_trans q13 (Nat.lt_trans q14 q15)))))))
    have n143 : o7 ≠ r6 := Nat.ne_of_lt (Nat.lt_trans q8 (Nat.lt_trans q9 (Nat.lt_trans q10 (Nat.lt_trans q11 (Nat.lt_trans q12 (Nat.lt_trans q13 (Nat.lt_trans q14 (Nat.lt_trans q15 q16))))))))
    have Vo7_144 : own_Arr Z h111 o7 .double [y70, y71, y72] := (own_Arr.keep (own_Arr.keep (own_Arr.keep (own_Arr.keep (own_Arr.keep (own_Arr.keep (own_Arr.keep (own_Arr.other Vo7 W2 n136) K9q (ninS n137 nin0)) K21q (ninS n138 nin0)) K35q (ninS n139 nin0)) K51q (ninS n140 nin0)) K69q (ninS n141 nin0)) K89q (ninS n142 nin0)) K111q (ninS n143 nin0))
    have n145 : a1 ≠ r7 := Nat.ne_of_lt (Nat.lt_trans q10 (Nat.lt_trans q11 (Nat.lt_trans q12 (Nat.lt_trans q13 (Nat.lt_trans q14 (Nat.lt_trans q15 (Nat.lt_trans q16 q17)))))))
    have n146 : r0 ≠ r7 := Nat.ne_of_lt (Nat.lt_trans q11 (Nat.lt_trans q12 (Nat.lt_trans q13 (Nat.lt_trans q14 (Nat.lt_trans q15 (Nat.lt_trans q16 q17))))))
    have n147 : r1 ≠ r7 := Nat.ne_of_lt (Nat.lt_trans q12 (Nat.lt_trans q13 (Nat.lt_trans q14 (Nat.lt_trans q15 (Nat.lt_trans q16 q17)))))
    have n148 : r2 ≠ r7 := Nat.ne_of_lt (Nat.lt_trans q13 (Nat.lt_trans q14 (Nat.lt_trans q15 (Nat.lt_trans q16 q17))))
    have n149 : r3 ≠ r7 := Nat.ne_of_lt (Nat.lt_trans q14 (Nat.lt_trans q15 (Nat.lt_trans q16 q17)))
    have n150 : r4 ≠ r7 := Nat.ne_of_lt (Nat.lt_trans q15 (Nat.lt_trans q16 q17))
    have n151 : r5 ≠ r7 := Nat.ne_of_lt (Nat.lt_trans q16 q17)
    have n152 : r6 ≠ r7 := Nat.ne_of_lt q17
    have Vr7_153 : own_Arr Z h111 r7 .double [x70, x71, x72] := (own_Arr.keep (own_Arr.keep (own_Arr.keep (own_Arr.keep (own_Arr.keep (own_Arr.keep (own_Arr.keep (own_Arr.other Vr7 W2 (Ne.symm n145)) K9q (ninS (Ne.symm n146) nin0)) K21q (ninS (Ne.symm n147) nin0)) K35q (ninS (Ne.symm n148) nin0)) K51q (ninS (Ne.symm n149) nin0)) K69q (ninS (Ne.symm n150) nin0)) K89q (ninS (Ne.symm n151) nin0)) K111q (ninS (Ne.symm n152) nin0))
    refine own_cpA X133 hx hZ hown (own_w hw 55 rfl) (own_w hw 58 rfl) (own_w hw 56 rfl) (own_w hw 57 rfl) e133 Vo7_144 Vr7_153 rfl 0 0 1 (by decide) (by decide) (by decide) (by simp) (by simp) N111 g_r7 (by rw [hml]; rfl) (hb hby d5_155) (by decide) (W := 0) (Nat.le_of_eq rfl) (by decide) ?_
    intro T135 h135 L135 X135 e135 N135 K135q A135
    have sz135 : n0 ≤ h135.size := Nat.le_trans sz111 K135q.1
    have K135 : Keep h0 h135 [a1, r0, r1, r2, r3, r4, r5, r6, r7, r8] := K111.trans K135q (allS (Or.inl (by simp)) all0)
    have V135_0 : own_Arr Z h135 r7 .double [y70, x71, x72] := A135
    show own_Go p e below _ T135 (mkF m 158 #[.val (.ref a1), .val (.ref a2)] [])
    refine own_by (fun t_ k_ => XS.aloadN X135.here hx rfl (hb hby d5_158) rfl rfl k_) ?_
    show own_Go p e below _ T135 (mkF m 159 #[.val (.ref a1), .val (.ref a2)] [(.ref a2)])
    have n155 : a2 ≠ r7 := Nat.ne_of_lt (Nat.lt_trans q0 (Nat.lt_trans q1 (Nat.lt_trans q2 (Nat.lt_trans q3 (Nat.lt_trans q4 (Nat.lt_trans q5 (Nat.lt_trans q6 (Nat.lt_trans q7 (Nat.lt_trans q8 (Nat.lt_trans q9 (Nat.lt_trans q10 (Nat.lt_trans q11 (Nat.lt_trans q12 (Nat.lt_trans q13 (Nat.lt_trans q14 (Nat.lt_trans q15 (Nat.lt_trans q16 q17)))))))))))))))))
    have Fo_best_156 : Fld Z h135 a2 "com/example/wayfold/wayfold/engine/DayTiming$Timeline" "best" "[D" (.ref o8) := (Fld.keep (Fld.keep (Fld.keep (Fld.keep (Fld.keep (Fld.keep (Fld.keep (Fld.keep (Fld.other W2 Fo_best (Or.inl n4)) K9q (ninS n15 nin0)) K21q (ninS n29 nin0)) K35q (ninS n45 nin0)) K51q (ninS n63 nin0)) K69q (ninS n83 nin0)) K89q (ninS n105 nin0)) K111q (ninS n129 nin0)) K135q (ninS n155 nin0))
    refine own_getF X135 hx hZ hown (own_w hw 29 rfl) Via.refl e135 Fo_best_156 (hb hby d5_159) ?_
    intro T154 X154 e154
    show own_Go p e below _ T154 (mkF m 162 #[.val (.ref a1), .val (.ref a2)] [(.ref o8)])
    refine own_by (fun t_ k_ => XS.iconst X154.here hx rfl (hb hby d5_162) k_) ?_
    show own_Go p e below _ T154 (mkF m 163 #[.val (.ref a1), .val (.ref a2)] [(.int (0 : Int32)), (.ref o8)])
    refine own_by (fun t_ k_ => XS.aloadN X154.here hx rfl (hb hby d5_163) rfl rfl k_) ?_
    show own_Go p e below _ T154 (mkF m 164 #[.val (.ref a1), .val (.ref a2)] [(.ref a1), (.int (0 : Int32)), (.ref o8)])
    have Fr_best_158 : Fld Z h135 a1 "com/example/wayfold/wayfold/engine/DayTiming$Timeline" "best" "[D" (.ref r8) := (Fld.keep (Fld.keep (Fld.keep (Fld.keep (Fld.keep (Fld.keep (Fld.keep (Fld.keep (Fld.other W2 Fr_best (Or.inr (slot_ne (Or.inr (own_w hw 30 rfl)) (Or.inl (own_w hw 32 rfl)) (by decide) (t := (.array .double)) (t' := .int) (by decide) (by decide)))) K9q (ninS n12 nin0)) K21q (ninS n25 nin0)) K35q (ninS n40 nin0)) K51q (ninS n57 nin0)) K69q (ninS n76 nin0)) K89q (ninS n97 nin0)) K111q (ninS n120 nin0)) K135q (ninS n145 nin0))
    refine own_getF X154 hx hZ hown (own_w hw 29 rfl) Via.refl e154 Fr_best_158 (hb hby d5_164) ?_
    intro T157 X157 e157
    show own_Go p e below _ T157 (mkF m 167 #[.val (.ref a1), .val (.ref a2)] [(.ref r8), (.int (0 : Int32)), (.ref o8)])
    refine own_by (fun t_ k_ => XS.iconst X157.here hx rfl (hb hby d5_167) k_) ?_
    show own_Go p e below _ T157 (mkF m 168 #[.val (.ref a1), .val (.ref a2)] [(.int (0 : Int32)), (.ref r8), (.int (0 : Int32)), (.ref o8)])
    refine own_by (fun t_ k_ => XS.aloadN X157.here hx rfl (hb hby d5_168) rfl rfl k_) ?_
    show own_Go p e below _ T157 (mkF m 169 #[.val (.ref a1), .val (.ref a2)] [(.ref a1), (.int (0 : Int32)), (.ref r8), (.int (0 : Int32)), (.ref o8)])
    have F2_160 : Fld Z h135 a1 "com/example/wayfold/wayfold/engine/DayTiming$Timeline" "length" "I" (.int (0 : Int32)) := (Fld.keep F2_134 K135q (ninS n145 nin0))
    refine own_getF X157 hx hZ hown (own_w hw 54 rfl) Via.refl e157 F2_160 (hb hby d5_169) ?_
    intro T159 X159 e159
    show own_Go p e below _ T159 (mkF m 172 #[.val (.ref a1), .val (.ref a2)] [(.int (0 : Int32)), (.int (0 : Int32)), (.ref r8), (.int (0 : Int32)), (.ref o8)])
    refine own_by (fun t_ k_ => XS.iconst X159.here hx rfl (hb hby d5_172) k_) ?_
    show own_Go p e below _ T159 (mkF m 173 #[.val (.ref a1), .val (.ref a2)] [(.int (1 : Int32)), (.int (0 : Int32)), (.int (0 : Int32)), (.ref r8), (.int (0 : Int32)), (.ref o8)])
    refine own_by (fun t_ k_ => XS.iadd X159.here hx rfl (hb hby d5_173) rfl k_) ?_
    show own_Go p e below _ T159 (mkF m 174 #[.val (.ref a1), .val (.ref a2)] [(.int (1 : Int32)), (.int (0 : Int32)), (.ref r8), (.int (0 : Int32)), (.ref o8)])
    have n162 : o8 ≠ a1 := Nat.ne_of_lt q9
    have n163 : o8 ≠ r0 := Nat.ne_of_lt (Nat.lt_trans q9 q10)
    have n164 : o8 ≠ r1 := Nat.ne_of_lt (Nat.lt_trans q9 (Nat.lt_trans q10 q11))
    have n165 : o8 ≠ r2 := Nat.ne_of_lt (Nat.lt_trans q9 (Nat.lt_trans q10 (Nat.lt_trans q11 q12)))
    have n166 : o8 ≠ r3 := Nat.ne_of_lt (Nat.lt_trans q9 (Nat.lt_trans q10 (Nat.lt_trans q11 (Nat.lt_trans q12 q13))))
    have n167 : o8 ≠ r4 := Nat.ne_of_lt (Nat.lt_trans q9 (Nat.lt_trans q10 (Nat.lt_trans q11 (Nat.lt_trans q12 (Nat.lt_trans q13 q14)))))
    have n168 : o8 ≠ r5 := Nat.ne_of_lt (Nat.lt_trans q9 (Nat.lt_trans q10 (Nat.lt_trans q11 (Nat.lt_trans q12 (Nat.lt_trans q13 (Nat.lt_trans q14 q15))))))
    have n169 : o8 ≠ r6 := Nat.ne_of_lt (Nat.lt_trans q9 (Nat.lt_trans q10 (Nat.lt_trans q11 (Nat.lt_trans q12 (Nat.lt_trans q13 (Nat.lt_trans q14 (Nat.lt_trans q15 q16)))))))
    have n170 : o8 ≠ r7 := Nat.ne_of_lt (Nat.lt_trans q9 (Nat.lt_trans q10 (Nat.lt_trans q11 (Nat.lt_trans q12 (Nat.lt_trans q13 (Nat.lt_trans q14 (Nat.lt_trans q15 (Nat.lt_trans q16 q17))))))))
    have Vo8_171 : own_Arr Z h135 o8 .double [y80, y81, y82] := (own_Arr.keep (own_Arr.keep (own_Arr.keep (own_Arr.keep (own_Arr.keep (own_Arr.keep (own_Arr.keep (own_Arr.keep (own_Arr.other Vo8 W2 n162) K9q (ninS n163 nin0)) K21q (ninS n164 nin0)) K35q (ninS n165 nin0)) K51q (ninS n166 nin0)) K69q (ninS n167 nin0)) K89q (ninS n168 nin0)) K111q (ninS n169 nin0)) K135q (ninS n170 nin0))
    have n172 : a1 ≠ r8 := Nat.ne_of_lt (Nat.lt_trans q10 (Nat.lt_trans q11 (Nat.lt_trans q12 (Nat.lt_trans q13 (Nat.lt_trans q14 (Nat.lt_trans q15 (Nat.lt_trans q16 (Nat.lt_trans q17 q18))))))))
    have n173 : r0 ≠ r8 := Nat.ne_of_lt (Nat.lt_trans q11 (Nat.lt_trans q12 (Nat.lt_trans q13 (Nat.lt_trans q14 (Nat.lt_trans q15 (Nat.lt_trans q16 (Nat.lt_trans q17 q18)))))))
    have n174 : r1 ≠ r8 := Nat.ne_of_lt (Nat.lt_trans q12 (Nat.lt_trans q13 (Nat.lt_trans q14 (Nat.lt_trans q15 (Nat.lt_trans q16 (Nat.lt_trans q17 q18))))))
    have n175 : r2 ≠ r8 := Nat.ne_of_lt (Nat.lt_trans q13 (Nat.lt_trans q14 (Nat.lt_trans q15 (Nat.lt_trans q16 (Nat.lt_trans q17 q18)))))
    have n176 : r3 ≠ r8 := Nat.ne_of_lt (Nat.lt_trans q14 (Nat.lt_trans q15 (Nat.lt_trans q16 (Nat.lt_trans q17 q18))))
    have n177 : r4 ≠ r8 := Nat.ne_of_lt (Nat.lt_trans q15 (Nat.lt_trans q16 (Nat.lt_trans q17 q18)))
    have n178 : r5 ≠ r8 := Nat.ne_of_lt (Nat.lt_trans q16 (Nat.lt_trans q17 q18))
    have n179 : r6 ≠ r8 := Nat.ne_of_lt (Nat.lt_trans q17 q18)
    have n180 : r7 ≠ r8 := Nat.ne_of_lt q18
    have Vr8_181 : own_Arr Z h135 r8 .double [x80, x81, x82] := (own_Arr.keep (own_Arr.keep (own_Arr.keep (own_Arr.keep (own_Arr.keep (own_Arr.keep (own_Arr.keep (own_Arr.keep (own_Arr.other Vr8 W2 (Ne.symm n172)) K9q (ninS (Ne.symm n173) nin0)) K21q (ninS (Ne.symm n174) nin0)) K35q (ninS (Ne.symm n175) nin0)) K51q (ninS (Ne.symm n176) nin0)) K69q (ninS (Ne.symm n177) nin0)) K89q (ninS (Ne.symm n178) nin0)) K111q (ninS (Ne.symm n179) nin0)) K135q (ninS (Ne.symm n180) nin0))
    refine own_cpA X159 hx hZ hown (own_w hw 55 rfl) (own_w hw 58 rfl) (own_w hw 56 rfl) (own_w hw 57 rfl) e159 Vo8_171 Vr8_181 rfl 0 0 1 (by decide) (by decide) (by decide) (by simp) (by simp) N135 g_r8 (by rw [hml]; rfl) (hb hby d5_174) (by decide) (W := 0) (Nat.le_of_eq rfl) (by decide) ?_
    intro T161 h161 L161 X161 e161 N161 K161q A161
    have sz161 : n0 ≤ h161.size := Nat.le_trans sz135 K161q.1
    have K161 : Keep h0 h161 [a1, r0, r1, r2, r3, r4, r5, r6, r7, r8] := K135.trans K161q (allS (Or.inl (by simp)) all0)
    have V161_0 : own_Arr Z h161 r8 .double [y80, x81, x82] := A161
    show own_Go p e below _ T161 (mkF m 177 #[.val (.ref a1), .val (.ref a2)] [])
    refine own_retV X161 hx hlk Bd.returns (hb hby d5_177) e161 (by decide) (by decide) ?_
    have E_a1_182 : Exa Z h161 a1 "com/example/wayfold/wayfold/engine/DayTiming$Timeline" := (Exa.keep (Exa.keep (Exa.keep (Exa.keep (Exa.keep (Exa.keep (Exa.keep (Exa.keep (Exa.keep (Exa.wr W2 E_a1) K9q) K21q) K35q) K51q) K69q) K89q) K111q) K135q) K161q)
    have F2_183 : Fld Z h161 a1 "com/example/wayfold/wayfold/engine/DayTiming$Timeline" "length" "I" (.int (0 : Int32)) := (Fld.keep F2_160 K161q (ninS n172 nin0))
    have Fr_nodes_184 : Fld Z h161 a1 "com/example/wayfold/wayfold/engine/DayTiming$Timeline" "nodes" "[I" (.ref r0) := (Fld.keep (Fld.keep (Fld.keep (Fld.keep (Fld.keep (Fld.keep (Fld.keep (Fld.keep (Fld.keep Fr_nodes_7 K9q (ninS n12 nin0)) K21q (ninS n25 nin0)) K35q (ninS n40 nin0)) K51q (ninS n57 nin0)) K69q (ninS n76 nin0)) K89q (ninS n97 nin0)) K111q (ninS n120 nin0)) K135q (ninS n145 nin0)) K161q (ninS n172 nin0))
    have Fr_leave_185 : Fld Z h161 a1 "com/example/wayfold/wayfold/engine/DayTiming$Timeline" "leave" "[D" (.ref r1) := (Fld.keep (Fld.keep (Fld.keep (Fld.keep (Fld.keep (Fld.keep (Fld.keep (Fld.keep Fr_leave_18 K21q (ninS n25 nin0)) K35q (ninS n40 nin0)) K51q (ninS n57 nin0)) K69q (ninS n76 nin0)) K89q (ninS n97 nin0)) K111q (ninS n120 nin0)) K135q (ninS n145 nin0)) K161q (ninS n172 nin0))
    have Fr_interest_186 : Fld Z h161 a1 "com/example/wayfold/wayfold/engine/DayTiming$Timeline" "interest" "[D" (.ref r2) := (Fld.keep (Fld.keep (Fld.keep (Fld.keep (Fld.keep (Fld.keep (Fld.keep Fr_interest_32 K35q (ninS n40 nin0)) K51q (ninS n57 nin0)) K69q (ninS n76 nin0)) K89q (ninS n97 nin0)) K111q (ninS n120 nin0)) K135q (ninS n145 nin0)) K161q (ninS n172 nin0))
    have Fr_travel_187 : Fld Z h161 a1 "com/example/wayfold/wayfold/engine/DayTiming$Timeline" "travel" "[D" (.ref r3) := (Fld.keep (Fld.keep (Fld.keep (Fld.keep (Fld.keep (Fld.keep Fr_travel_48 K51q (ninS n57 nin0)) K69q (ninS n76 nin0)) K89q (ninS n97 nin0)) K111q (ninS n120 nin0)) K135q (ninS n145 nin0)) K161q (ninS n172 nin0))
    have Fr_visit_188 : Fld Z h161 a1 "com/example/wayfold/wayfold/engine/DayTiming$Timeline" "visit" "[D" (.ref r4) := (Fld.keep (Fld.keep (Fld.keep (Fld.keep (Fld.keep Fr_visit_66 K69q (ninS n76 nin0)) K89q (ninS n97 nin0)) K111q (ninS n120 nin0)) K135q (ninS n145 nin0)) K161q (ninS n172 nin0))
    have Fr_waiting_189 : Fld Z h161 a1 "com/example/wayfold/wayfold/engine/DayTiming$Timeline" "waiting" "[D" (.ref r5) := (Fld.keep (Fld.keep (Fld.keep (Fld.keep Fr_waiting_86 K89q (ninS n97 nin0)) K111q (ninS n120 nin0)) K135q (ninS n145 nin0)) K161q (ninS n172 nin0))
    have Fr_load_190 : Fld Z h161 a1 "com/example/wayfold/wayfold/engine/DayTiming$Timeline" "load" "[D" (.ref r6) := (Fld.keep (Fld.keep (Fld.keep Fr_load_108 K111q (ninS n120 nin0)) K135q (ninS n145 nin0)) K161q (ninS n172 nin0))
    have Fr_latest_191 : Fld Z h161 a1 "com/example/wayfold/wayfold/engine/DayTiming$Timeline" "latest" "[D" (.ref r7) := (Fld.keep (Fld.keep Fr_latest_132 K135q (ninS n145 nin0)) K161q (ninS n172 nin0))
    have Fr_best_192 : Fld Z h161 a1 "com/example/wayfold/wayfold/engine/DayTiming$Timeline" "best" "[D" (.ref r8) := (Fld.keep Fr_best_158 K161q (ninS n172 nin0))
    have V9_193 : own_Arr Z h161 r0 .int [x00, x01] := (own_Arr.keep (own_Arr.keep (own_Arr.keep (own_Arr.keep (own_Arr.keep (own_Arr.keep (own_Arr.keep (own_Arr.keep V9_0 K21q (ninS n26 nin0)) K35q (ninS n41 nin0)) K51q (ninS n58 nin0)) K69q (ninS n77 nin0)) K89q (ninS n98 nin0)) K111q (ninS n121 nin0)) K135q (ninS n146 nin0)) K161q (ninS n173 nin0))
    have V21_194 : own_Arr Z h161 r1 .double [y10, x11, x12] := (own_Arr.keep (own_Arr.keep (own_Arr.keep (own_Arr.keep (own_Arr.keep (own_Arr.keep (own_Arr.keep V21_0 K35q (ninS n42 nin0)) K51q (ninS n59 nin0)) K69q (ninS n78 nin0)) K89q (ninS n99 nin0)) K111q (ninS n122 nin0)) K135q (ninS n147 nin0)) K161q (ninS n174 nin0))
    have V35_195 : own_Arr Z h161 r2 .double [y20, x21, x22] := (own_Arr.keep (own_Arr.keep (own_Arr.keep (own_Arr.keep (own_Arr.keep (own_Arr.keep V35_0 K51q (ninS n60 nin0)) K69q (ninS n79 nin0)) K89q (ninS n100 nin0)) K111q (ninS n123 nin0)) K135q (ninS n148 nin0)) K161q (ninS n175 nin0))
    have V51_196 : own_Arr Z h161 r3 .double [y30, x31, x32] := (own_Arr.keep (own_Arr.keep (own_Arr.keep (own_Arr.keep (own_Arr.keep V51_0 K69q (ninS n80 nin0)) K89q (ninS n101 nin0)) K111q (ninS n124 nin0)) K135q (ninS n149 nin0)) K161q (ninS n176 nin0))
    have V69_197 : own_Arr Z h161 r4 .double [y40, x41, x42] := (own_Arr.keep (own_Arr.keep (own_Arr.keep (own_Arr.keep V69_0 K89q (ninS n102 nin0)) K111q (ninS n125 nin0)) K135q (ninS n150 nin0)) K161q (ninS n177 nin0))
    have V89_198 : own_Arr Z h161 r5 .double [y50, x51, x52] := (own_Arr.keep (own_Arr.keep (own_Arr.keep V89_0 K111q (ninS n126 nin0)) K135q (ninS n151 nin0)) K161q (ninS n178 nin0))
    have V111_199 : own_Arr Z h161 r6 .double [y60, x61, x62] := (own_Arr.keep (own_Arr.keep V111_0 K135q (ninS n152 nin0)) K161q (ninS n179 nin0))
    have V135_200 : own_Arr Z h161 r7 .double [y70, x71, x72] := (own_Arr.keep V135_0 K161q (ninS n180 nin0))
    exact ⟨rfl, N161, K161, E_a1_182, F2_183, ⟨Fr_nodes_184, Fr_leave_185, Fr_interest_186, Fr_travel_187, Fr_visit_188, Fr_waiting_189, Fr_load_190, Fr_latest_191, Fr_best_192⟩, V9_193, V21_194, V35_195, V51_196, V69_197, V89_198, V111_199, V135_200, V161_0⟩
  · show own_Go p e below _ s₁ (mkF m 0 #[.val (.ref a1), .val (.ref a2)] [])
    refine own_by (fun t_ k_ => XS.aloadN X0.here hx rfl (hb hby d5_0) rfl rfl k_) ?_
    show own_Go p e below _ s₁ (mkF m 1 #[.val (.ref a1), .val (.ref a2)] [(.ref a1)])
    refine own_by (fun t_ k_ => XS.aloadN X0.here hx rfl (hb hby d5_1) rfl rfl k_) ?_
    show own_Go p e below _ s₁ (mkF m 2 #[.val (.ref a1), .val (.ref a2)] [(.ref a2), (.ref a1)])
    refine own_getF X0 hx hZ hown (own_w hw 54 rfl) Via.refl e0 F_length2 (hb hby d5_2) ?_
    intro T201 X201 e201
    show own_Go p e below _ T201 (mkF m 5 #[.val (.ref a1), .val (.ref a2)] [(.int (1 : Int32)), (.ref a1)])
    refine own_putF X201 hx hZ hown (own_w hw 54 rfl) Via.refl e201 F_length1 E_a1 (Or.inl (own_w hw 32 rfl)) (own_w hw 3 rfl) (ty := .int) (by decide) rfl rfl (hb hby d5_5) ?_
    intro T202 h202 X202 e202 W202
    have F202 := Fld.same W202 F_length1
    have N202 := Fr.snoc X202 N0 g_a1
    have sz202 : n0 ≤ h202.size := Nat.le_trans Z0 (Keep.of_wr W202).1
    have K202 : Keep h0 h202 [a1, r0, r1, r2, r3, r4, r5, r6, r7, r8] := K0.wr W202 (Or.inl (by simp))
    show own_Go p e below _ T202 (mkF m 8 #[.val (.ref a1), .val (.ref a2)] [])
    refine own_by (fun t_ k_ => XS.aloadN X202.here hx rfl (hb hby d5_8) rfl rfl k_) ?_
    show own_Go p e below _ T202 (mkF m 9 #[.val (.ref a1), .val (.ref a2)] [(.ref a2)])
    have n204 : a2 ≠ a1 := Nat.ne_of_lt (Nat.lt_trans q0 (Nat.lt_trans q1 (Nat.lt_trans q2 (Nat.lt_trans q3 (Nat.lt_trans q4 (Nat.lt_trans q5 (Nat.lt_trans q6 (Nat.lt_trans q7 (Nat.lt_trans q8 q9)))))))))
    have Fo_nodes_205 : Fld Z h202 a2 "com/example/wayfold/wayfold/engine/DayTiming$Timeline" "nodes" "[I" (.ref o0) := (Fld.other W202 Fo_nodes (Or.inl n204))
    refine own_getF X202 hx hZ hown (own_w hw 12 rfl) Via.refl e202 Fo_nodes_205 (hb hby d5_9) ?_
    intro T203 X203 e203
    show own_Go p e below _ T203 (mkF m 12 #[.val (.ref a1), .val (.ref a2)] [(.ref o0)])
    refine own_by (fun t_ k_ => XS.iconst X203.here hx rfl (hb hby d5_12) k_) ?_
    show own_Go p e below _ T203 (mkF m 13 #[.val (.ref a1), .val (.ref a2)] [(.int (0 : Int32)), (.ref o0)])
    refine own_by (fun t_ k_ => XS.aloadN X203.here hx rfl (hb hby d5_13) rfl rfl k_) ?_
    show own_Go p e below _ T203 (mkF m 14 #[.val (.ref a1), .val (.ref a2)] [(.ref a1), (.int (0 : Int32)), (.ref o0)])
    have Fr_nodes_207 : Fld Z h202 a1 "com/example/wayfold/wayfold/engine/DayTiming$Timeline" "nodes" "[I" (.ref r0) := (Fld.other W202 Fr_nodes (Or.inr (slot_ne (Or.inr (own_w hw 13 rfl)) (Or.inl (own_w hw 32 rfl)) (by decide) (t := (.array .int)) (t' := .int) (by decide) (by decide))))
    refine own_getF X203 hx hZ hown (own_w hw 12 rfl) Via.refl e203 Fr_nodes_207 (hb hby d5_14) ?_
    intro T206 X206 e206
    show own_Go p e below _ T206 (mkF m 17 #[.val (.ref a1), .val (.ref a2)] [(.ref r0), (.int (0 : Int32)), (.ref o0)])
    refine own_by (fun t_ k_ => XS.iconst X206.here hx rfl (hb hby d5_17) k_) ?_
    show own_Go p e below _ T206 (mkF m 18 #[.val (.ref a1), .val (.ref a2)] [(.int (0 : Int32)), (.ref r0), (.int (0 : Int32)), (.ref o0)])
    refine own_by (fun t_ k_ => XS.aloadN X206.here hx rfl (hb hby d5_18) rfl rfl k_) ?_
    show own_Go p e below _ T206 (mkF m 19 #[.val (.ref a1), .val (.ref a2)] [(.ref a1), (.int (0 : Int32)), (.ref r0), (.int (0 : Int32)), (.ref o0)])
    refine own_getF X206 hx hZ hown (own_w hw 54 rfl) Via.refl e206 F202 (hb hby d5_19) ?_
    intro T208 X208 e208
    show own_Go p e below _ T208 (mkF m 22 #[.val (.ref a1), .val (.ref a2)] [(.int (1 : Int32)), (.int (0 : Int32)), (.ref r0), (.int (0 : Int32)), (.ref o0)])
    have n210 : o0 ≠ a1 := Nat.ne_of_lt (Nat.lt_trans q1 (Nat.lt_trans q2 (Nat.lt_trans q3 (Nat.lt_trans q4 (Nat.lt_trans q5 (Nat.lt_trans q6 (Nat.lt_trans q7 (Nat.lt_trans q8 q9))))))))
    have Vo0_211 : own_Arr Z h202 o0 .int [y00, y01] := (own_Arr.other Vo0 W202 n210)
    have n212 : a1 ≠ r0 := Nat.ne_of_lt q10
    have Vr0_213 : own_Arr Z h202 r0 .int [x00, x01] := (own_Arr.other Vr0 W202 (Ne.symm n212))
    refine own_cpA X208 hx hZ hown (own_w hw 55 rfl) (own_w hw 58 rfl) (own_w hw 56 rfl) (own_w hw 57 rfl) e208 Vo0_211 Vr0_213 rfl 0 0 1 (by decide) (by decide) (by decide) (by simp) (by simp) N202 g_r0 (by rw [hml]; rfl) (hb hby d5_22) (by decide) (W := 0) (Nat.le_of_eq rfl) (by decide) ?_
    intro T209 h209 L209 X209 e209 N209 K209q A209
    have sz209 : n0 ≤ h209.size := Nat.le_trans sz202 K209q.1
    have K209 : Keep h0 h209 [a1, r0, r1, r2, r3, r4, r5, r6, r7, r8] := K202.trans K209q (allS (Or.inl (by simp)) all0)
    have V209_0 : own_Arr Z h209 r0 .int [y00, x01] := A209
    show own_Go p e below _ T209 (mkF m 25 #[.val (.ref a1), .val (.ref a2)] [])
    refine own_by (fun t_ k_ => XS.aloadN X209.here hx rfl (hb hby d5_25) rfl rfl k_) ?_
    show own_Go p e below _ T209 (mkF m 26 #[.val (.ref a1), .val (.ref a2)] [(.ref a2)])
    have n215 : a2 ≠ r0 := Nat.ne_of_lt (Nat.lt_trans q0 (Nat.lt_trans q1 (Nat.lt_trans q2 (Nat.lt_trans q3 (Nat.lt_trans q4 (Nat.lt_trans q5 (Nat.lt_trans q6 (Nat.lt_trans q7 (Nat.lt_trans q8 (Nat.lt_trans q9 q10))))))))))
    have Fo_leave_216 : Fld Z h209 a2 "com/example/wayfold/wayfold/engine/DayTiming$Timeline" "leave" "[D" (.ref o1) := (Fld.keep (Fld.other W202 Fo_leave (Or.inl n204)) K209q (ninS n215 nin0))
    refine own_getF X209 hx hZ hown (own_w hw 15 rfl) Via.refl e209 Fo_leave_216 (hb hby d5_26) ?_
    intro T214 X214 e214
    show own_Go p e below _ T214 (mkF m 29 #[.val (.ref a1), .val (.ref a2)] [(.ref o1)])
    refine own_by (fun t_ k_ => XS.iconst X214.here hx rfl (hb hby d5_29) k_) ?_
    show own_Go p e below _ T214 (mkF m 30 #[.val (.ref a1), .val (.ref a2)] [(.int (0 : Int32)), (.ref o1)])
    refine own_by (fun t_ k_ => XS.aloadN X214.here hx rfl (hb hby d5_30) rfl rfl k_) ?_
    show own_Go p e below _ T214 (mkF m 31 #[.val (.ref a1), .val (.ref a2)] [(.ref a1), (.int (0 : Int32)), (.ref o1)])
    have Fr_leave_218 : Fld Z h209 a1 "com/example/wayfold/wayfold/engine/DayTiming$Timeline" "leave" "[D" (.ref r1) := (Fld.keep (Fld.other W202 Fr_leave (Or.inr (slot_ne (Or.inr (own_w hw 16 rfl)) (Or.inl (own_w hw 32 rfl)) (by decide) (t := (.array .double)) (t' := .int) (by decide) (by decide)))) K209q (ninS n212 nin0))
    refine own_getF X214 hx hZ hown (own_w hw 15 rfl) Via.refl e214 Fr_leave_218 (hb hby d5_31) ?_
    intro T217 X217 e217
    show own_Go p e below _ T217 (mkF m 34 #[.val (.ref a1), .val (.ref a2)] [(.ref r1), (.int (0 : Int32)), (.ref o1)])
    refine own_by (fun t_ k_ => XS.iconst X217.here hx rfl (hb hby d5_34) k_) ?_
    show own_Go p e below _ T217 (mkF m 35 #[.val (.ref a1), .val (.ref a2)] [(.int (0 : Int32)), (.ref r1), (.int (0 : Int32)), (.ref o1)])
    refine own_by (fun t_ k_ => XS.aloadN X217.here hx rfl (hb hby d5_35) rfl rfl k_) ?_
    show own_Go p e below _ T217 (mkF m 36 #[.val (.ref a1), .val (.ref a2)] [(.ref a1), (.int (0 : Int32)), (.ref r1), (.int (0 : Int32)), (.ref o1)])
    have F202_220 : Fld Z h209 a1 "com/example/wayfold/wayfold/engine/DayTiming$Timeline" "length" "I" (.int (1 : Int32)) := (Fld.keep F202 K209q (ninS n212 nin0))
    refine own_getF X217 hx hZ hown (own_w hw 54 rfl) Via.refl e217 F202_220 (hb hby d5_36) ?_
    intro T219 X219 e219
    show own_Go p e below _ T219 (mkF m 39 #[.val (.ref a1), .val (.ref a2)] [(.int (1 : Int32)), (.int (0 : Int32)), (.ref r1), (.int (0 : Int32)), (.ref o1)])
    refine own_by (fun t_ k_ => XS.iconst X219.here hx rfl (hb hby d5_39) k_) ?_
    show own_Go p e below _ T219 (mkF m 40 #[.val (.ref a1), .val (.ref a2)] [(.int (1 : Int32)), (.int (1 : Int32)), (.int (0 : Int32)), (.ref r1), (.int (0 : Int32)), (.ref o1)])
    refine own_by (fun t_ k_ => XS.iadd X219.here hx rfl (hb hby d5_40) rfl k_) ?_
    show own_Go p e below _ T219 (mkF m 41 #[.val (.ref a1), .val (.ref a2)] [(.int (2 : Int32)), (.int (0 : Int32)), (.ref r1), (.int (0 : Int32)), (.ref o1)])
    have n222 : o1 ≠ a1 := Nat.ne_of_lt (Nat.lt_trans q2 (Nat.lt_trans q3 (Nat.lt_trans q4 (Nat.lt_trans q5 (Nat.lt_trans q6 (Nat.lt_trans q7 (Nat.lt_trans q8 q9)))))))
    have n223 : o1 ≠ r0 := Nat.ne_of_lt (Nat.lt_trans q2 (Nat.lt_trans q3 (Nat.lt_trans q4 (Nat.lt_trans q5 (Nat.lt_trans q6 (Nat.lt_trans q7 (Nat.lt_trans q8 (Nat.lt_trans q9 q10))))))))
    have Vo1_224 : own_Arr Z h209 o1 .double [y10, y11, y12] := (own_Arr.keep (own_Arr.other Vo1 W202 n222) K209q (ninS n223 nin0))
    have n225 : a1 ≠ r1 := Nat.ne_of_lt (Nat.lt_trans q10 q11)
    have n226 : r0 ≠ r1 := Nat.ne_of_lt q11
    have Vr1_227 : own_Arr Z h209 r1 .double [x10, x11, x12] := (own_Arr.keep (own_Arr.other Vr1 W202 (Ne.symm n225)) K209q (ninS (Ne.symm n226) nin0))
    refine own_cpA X219 hx hZ hown (own_w hw 55 rfl) (own_w hw 58 rfl) (own_w hw 56 rfl) (own_w hw 57 rfl) e219 Vo1_224 Vr1_227 rfl 0 0 2 (by decide) (by decide) (by decide) (by simp) (by simp) N209 g_r1 (by rw [hml]; rfl) (hb hby d5_41) (by decide) (W := 0) (Nat.le_of_eq rfl) (by decide) ?_
    intro T221 h221 L221 X221 e221 N221 K221q A221
    have sz221 : n0 ≤ h221.size := Nat.le_trans sz209 K221q.1
    have K221 : Keep h0 h221 [a1, r0, r1, r2, r3, r4, r5, r6, r7, r8] := K209.trans K221q (allS (Or.inl (by simp)) all0)
    have V221_0 : own_Arr Z h221 r1 .double [y10, y11, x12] := A221
    show own_Go p e below _ T221 (mkF m 44 #[.val (.ref a1), .val (.ref a2)] [])
    refine own_by (fun t_ k_ => XS.aloadN X221.here hx rfl (hb hby d5_44) rfl rfl k_) ?_
    show own_Go p e below _ T221 (mkF m 45 #[.val (.ref a1), .val (.ref a2)] [(.ref a2)])
    have n229 : a2 ≠ r1 := Nat.ne_of_lt (Nat.lt_trans q0 (Nat.lt_trans q1 (Nat.lt_trans q2 (Nat.lt_trans q3 (Nat.lt_trans q4 (Nat.lt_trans q5 (Nat.lt_trans q6 (Nat.lt_trans q7 (Nat.lt_trans q8 (Nat.lt_trans q9 (Nat.lt_trans q10 q11)))))))))))
    have Fo_interest_230 : Fld Z h221 a2 "com/example/wayfold/wayfold/engine/DayTiming$Timeline" "interest" "[D" (.ref o2) := (Fld.keep (Fld.keep (Fld.other W202 Fo_interest (Or.inl n204)) K209q (ninS n215 nin0)) K221q (ninS n229 nin0))
    refine own_getF X221 hx hZ hown (own_w hw 17 rfl) Via.refl e221 Fo_interest_230 (hb hby d5_45) ?_
    intro T228 X228 e228
    show own_Go p e below _ T228 (mkF m 48 #[.val (.ref a1), .val (.ref a2)] [(.ref o2)])
    refine own_by (fun t_ k_ => XS.iconst X228.here hx rfl (hb hby d5_48) k_) ?_
    show own_Go p e below _ T228 (mkF m 49 #[.val (.ref a1), .val (.ref a2)] [(.int (0 : Int32)), (.ref o2)])
    refine own_by (fun t_ k_ => XS.aloadN X228.here hx rfl (hb hby d5_49) rfl rfl k_) ?_
    show own_Go p e below _ T228 (mkF m 50 #[.val (.ref a1), .val (.ref a2)] [(.ref a1), (.int (0 : Int32)), (.ref o2)])
    have Fr_interest_232 : Fld Z h221 a1 "com/example/wayfold/wayfold/engine/DayTiming$Timeline" "interest" "[D" (.ref r2) := (Fld.keep (Fld.keep (Fld.other W202 Fr_interest (Or.inr (slot_ne (Or.inr (own_w hw 18 rfl)) (Or.inl (own_w hw 32 rfl)) (by decide) (t := (.array .double)) (t' := .int) (by decide) (by decide)))) K209q (ninS n212 nin0)) K221q (ninS n225 nin0))
    refine own_getF X228 hx hZ hown (own_w hw 17 rfl) Via.refl e228 Fr_interest_232 (hb hby d5_50) ?_
    intro T231 X231 e231
    show own_Go p e below _ T231 (mkF m 53 #[.val (.ref a1), .val (.ref a2)] [(.ref r2), (.int (0 : Int32)), (.ref o2)])
    refine own_by (fun t_ k_ => XS.iconst X231.here hx rfl (hb hby d5_53) k_) ?_
    show own_Go p e below _ T231 (mkF m 54 #[.val (.ref a1), .val (.ref a2)] [(.int (0 : Int32)), (.ref r2), (.int (0 : Int32)), (.ref o2)])
    refine own_by (fun t_ k_ => XS.aloadN X231.here hx rfl (hb hby d5_54) rfl rfl k_) ?_
    show own_Go p e below _ T231 (mkF m 55 #[.val (.ref a1), .val (.ref a2)] [(.ref a1), (.int (0 : Int32)), (.ref r2), (.int (0 : Int32)), (.ref o2)])
    have F202_234 : Fld Z h221 a1 "com/example/wayfold/wayfold/engine/DayTiming$Timeline" "length" "I" (.int (1 : Int32)) := (Fld.keep F202_220 K221q (ninS n225 nin0))
    refine own_getF X231 hx hZ hown (own_w hw 54 rfl) Via.refl e231 F202_234 (hb hby d5_55) ?_
    intro T233 X233 e233
    show own_Go p e below _ T233 (mkF m 58 #[.val (.ref a1), .val (.ref a2)] [(.int (1 : Int32)), (.int (0 : Int32)), (.ref r2), (.int (0 : Int32)), (.ref o2)])
    refine own_by (fun t_ k_ => XS.iconst X233.here hx rfl (hb hby d5_58) k_) ?_
    show own_Go p e below _ T233 (mkF m 59 #[.val (.ref a1), .val (.ref a2)] [(.int (1 : Int32)), (.int (1 : Int32)), (.int (0 : Int32)), (.ref r2), (.int (0 : Int32)), (.ref o2)])
    refine own_by (fun t_ k_ => XS.iadd X233.here hx rfl (hb hby d5_59) rfl k_) ?_
    show own_Go p e below _ T233 (mkF m 60 #[.val (.ref a1), .val (.ref a2)] [(.int (2 : Int32)), (.int (0 : Int32)), (.ref r2), (.int (0 : Int32)), (.ref o2)])
    have n236 : o2 ≠ a1 := Nat.ne_of_lt (Nat.lt_trans q3 (Nat.lt_trans q4 (Nat.lt_trans q5 (Nat.lt_trans q6 (Nat.lt_trans q7 (Nat.lt_trans q8 q9))))))
    have n237 : o2 ≠ r0 := Nat.ne_of_lt (Nat.lt_trans q3 (Nat.lt_trans q4 (Nat.lt_trans q5 (Nat.lt_trans q6 (Nat.lt_trans q7 (Nat.lt_trans q8 (Nat.lt_trans q9 q10)))))))
    have n238 : o2 ≠ r1 := Nat.ne_of_lt (Nat.lt_trans q3 (Nat.lt_trans q4 (Nat.lt_trans q5 (Nat.lt_trans q6 (Nat.lt_trans q7 (Nat.lt_trans q8 (Nat.lt_trans q9 (Nat.lt_trans q10 q11))))))))
    have Vo2_239 : own_Arr Z h221 o2 .double [y20, y21, y22] := (own_Arr.keep (own_Arr.keep (own_Arr.other Vo2 W202 n236) K209q (ninS n237 nin0)) K221q (ninS n238 nin0))
    have n240 : a1 ≠ r2 := Nat.ne_of_lt (Nat.lt_trans q10 (Nat.lt_trans q11 q12))
    have n241 : r0 ≠ r2 := Nat.ne_of_lt (Nat.lt_trans q11 q12)
    have n242 : r1 ≠ r2 := Nat.ne_of_lt q12
    have Vr2_243 : own_Arr Z h221 r2 .double [x20, x21, x22] := (own_Arr.keep (own_Arr.keep (own_Arr.other Vr2 W202 (Ne.symm n240)) K209q (ninS (Ne.symm n241) nin0)) K221q (ninS (Ne.symm n242) nin0))
    refine own_cpA X233 hx hZ hown (own_w hw 55 rfl) (own_w hw 58 rfl) (own_w hw 56 rfl) (own_w hw 57 rfl) e233 Vo2_239 Vr2_243 rfl 0 0 2 (by decide) (by decide) (by decide) (by simp) (by simp) N221 g_r2 (by rw [hml]; rfl) (hb hby d5_60) (by decide) (W := 0) (Nat.le_of_eq rfl) (by decide) ?_
    intro T235 h235 L235 X235 e235 N235 K235q A235
    have sz235 : n0 ≤ h235.size := Nat.le_trans sz221 K235q.1
    have K235 : Keep h0 h235 [a1, r0, r1, r2, r3, r4, r5, r6, r7, r8] := K221.trans K235q (allS (Or.inl (by simp)) all0)
    have V235_0 : own_Arr Z h235 r2 .double [y20, y21, x22] := A235
    show own_Go p e below _ T235 (mkF m 63 #[.val (.ref a1), .val (.ref a2)] [])
    refine own_by (fun t_ k_ => XS.aloadN X235.here hx rfl (hb hby d5_63) rfl rfl k_) ?_
    show own_Go p e below _ T235 (mkF m 64 #[.val (.ref a1), .val (.ref a2)] [(.ref a2)])
    have n245 : a2 ≠ r2 := Nat.ne_of_lt (Nat.lt_trans q0 (Nat.lt_trans q1 (Nat.lt_trans q2 (Nat.lt_trans q3 (Nat.lt_trans q4 (Nat.lt_trans q5 (Nat.lt_trans q6 (Nat.lt_trans q7 (Nat.lt_trans q8 (Nat.lt_trans q9 (Nat.lt_trans q10 (Nat.lt_trans q11 q12))))))))))))
    have Fo_travel_246 : Fld Z h235 a2 "com/example/wayfold/wayfold/engine/DayTiming$Timeline" "travel" "[D" (.ref o3) := (Fld.keep (Fld.keep (Fld.keep (Fld.other W202 Fo_travel (Or.inl n204)) K209q (ninS n215 nin0)) K221q (ninS n229 nin0)) K235q (ninS n245 nin0))
    refine own_getF X235 hx hZ hown (own_w hw 19 rfl) Via.refl e235 Fo_travel_246 (hb hby d5_64) ?_
    intro T244 X244 e244
    show own_Go p e below _ T244 (mkF m 67 #[.val (.ref a1), .val (.ref a2)] [(.ref o3)])
    refine own_by (fun t_ k_ => XS.iconst X244.here hx rfl (hb hby d5_67) k_) ?_
    show own_Go p e below _ T244 (mkF m 68 #[.val (.ref a1), .val (.ref a2)] [(.int (0 : Int32)), (.ref o3)])
    refine own_by (fun t_ k_ => XS.aloadN X244.here hx rfl (hb hby d5_68) rfl rfl k_) ?_
    show own_Go p e below _ T244 (mkF m 69 #[.val (.ref a1), .val (.ref a2)] [(.ref a1), (.int (0 : Int32)), (.ref o3)])
    have Fr_travel_248 : Fld Z h235 a1 "com/example/wayfold/wayfold/engine/DayTiming$Timeline" "travel" "[D" (.ref r3) := (Fld.keep (Fld.keep (Fld.keep (Fld.other W202 Fr_travel (Or.inr (slot_ne (Or.inr (own_w hw 20 rfl)) (Or.inl (own_w hw 32 rfl)) (by decide) (t := (.array .double)) (t' := .int) (by decide) (by decide)))) K209q (ninS n212 nin0)) K221q (ninS n225 nin0)) K235q (ninS n240 nin0))
    refine own_getF X244 hx hZ hown (own_w hw 19 rfl) Via.refl e244 Fr_travel_248 (hb hby d5_69) ?_
    intro T247 X247 e247
    show own_Go p e below _ T247 (mkF m 72 #[.val (.ref a1), .val (.ref a2)] [(.ref r3), (.int (0 : Int32)), (.ref o3)])
    refine own_by (fun t_ k_ => XS.iconst X247.here hx rfl (hb hby d5_72) k_) ?_
    show own_Go p e below _ T247 (mkF m 73 #[.val (.ref a1), .val (.ref a2)] [(.int (0 : Int32)), (.ref r3), (.int (0 : Int32)), (.ref o3)])
    refine own_by (fun t_ k_ => XS.aloadN X247.here hx rfl (hb hby d5_73) rfl rfl k_) ?_
    show own_Go p e below _ T247 (mkF m 74 #[.val (.ref a1), .val (.ref a2)] [(.ref a1), (.int (0 : Int32)), (.ref r3), (.int (0 : Int32)), (.ref o3)])
    have F202_250 : Fld Z h235 a1 "com/example/wayfold/wayfold/engine/DayTiming$Timeline" "length" "I" (.int (1 : Int32)) := (Fld.keep F202_234 K235q (ninS n240 nin0))
    refine own_getF X247 hx hZ hown (own_w hw 54 rfl) Via.refl e247 F202_250 (hb hby d5_74) ?_
    intro T249 X249 e249
    show own_Go p e below _ T249 (mkF m 77 #[.val (.ref a1), .val (.ref a2)] [(.int (1 : Int32)), (.int (0 : Int32)), (.ref r3), (.int (0 : Int32)), (.ref o3)])
    refine own_by (fun t_ k_ => XS.iconst X249.here hx rfl (hb hby d5_77) k_) ?_
    show own_Go p e below _ T249 (mkF m 78 #[.val (.ref a1), .val (.ref a2)] [(.int (1 : Int32)), (.int (1 : Int32)), (.int (0 : Int32)), (.ref r3), (.int (0 : Int32)), (.ref o3)])
    refine own_by (fun t_ k_ => XS.iadd X249.here hx rfl (hb hby d5_78) rfl k_) ?_
    show own_Go p e below _ T249 (mkF m 79 #[.val (.ref a1), .val (.ref a2)] [(.int (2 : Int32)), (.int (0 : Int32)), (.ref r3), (.int (0 : Int32)), (.ref o3)])
    have n252 : o3 ≠ a1 := Nat.ne_of_lt (Nat.lt_trans q4 (Nat.lt_trans q5 (Nat.lt_trans q6 (Nat.lt_trans q7 (Nat.lt_trans q8 q9)))))
    have n253 : o3 ≠ r0 := Nat.ne_of_lt (Nat.lt_trans q4 (Nat.lt_trans q5 (Nat.lt_trans q6 (Nat.lt_trans q7 (Nat.lt_trans q8 (Nat.lt_trans q9 q10))))))
    have n254 : o3 ≠ r1 := Nat.ne_of_lt (Nat.lt_trans q4 (Nat.lt_trans q5 (Nat.lt_trans q6 (Nat.lt_trans q7 (Nat.lt_trans q8 (Nat.lt_trans q9 (Nat.lt_trans q10 q11)))))))
    have n255 : o3 ≠ r2 := Nat.ne_of_lt (Nat.lt_trans q4 (Nat.lt_trans q5 (Nat.lt_trans q6 (Nat.lt_trans q7 (Nat.lt_trans q8 (Nat.lt_trans q9 (Nat.lt_trans q10 (Nat.lt_trans q11 q12))))))))
    have Vo3_256 : own_Arr Z h235 o3 .double [y30, y31, y32] := (own_Arr.keep (own_Arr.keep (own_Arr.keep (own_Arr.other Vo3 W202 n252) K209q (ninS n253 nin0)) K221q (ninS n254 nin0)) K235q (ninS n255 nin0))
    have n257 : a1 ≠ r3 := Nat.ne_of_lt (Nat.lt_trans q10 (Nat.lt_trans q11 (Nat.lt_trans q12 q13)))
    have n258 : r0 ≠ r3 := Nat.ne_of_lt (Nat.lt_trans q11 (Nat.lt_trans q12 q13))
    have n259 : r1 ≠ r3 := Nat.ne_of_lt (Nat.lt_trans q12 q13)
    have n260 : r2 ≠ r3 := Nat.ne_of_lt q13
    have Vr3_261 : own_Arr Z h235 r3 .double [x30, x31, x32] := (own_Arr.keep (own_Arr.keep (own_Arr.keep (own_Arr.other Vr3 W202 (Ne.symm n257)) K209q (ninS (Ne.symm n258) nin0)) K221q (ninS (Ne.symm n259) nin0)) K235q (ninS (Ne.symm n260) nin0))
    refine own_cpA X249 hx hZ hown (own_w hw 55 rfl) (own_w hw 58 rfl) (own_w hw 56 rfl) (own_w hw 57 rfl) e249 Vo3_256 Vr3_261 rfl 0 0 2 (by decide) (by decide) (by decide) (by simp) (by simp) N235 g_r3 (by rw [hml]; rfl) (hb hby d5_79) (by decide) (W := 0) (Nat.le_of_eq rfl) (by decide) ?_
    intro T251 h251 L251 X251 e251 N251 K251q A251
    have sz251 : n0 ≤ h251.size := Nat.le_trans sz235 K251q.1
    have K251 : Keep h0 h251 [a1, r0, r1, r2, r3, r4, r5, r6, r7, r8] := K235.trans K251q (allS (Or.inl (by simp)) all0)
    have V251_0 : own_Arr Z h251 r3 .double [y30, y31, x32] := A251
    show own_Go p e below _ T251 (mkF m 82 #[.val (.ref a1), .val (.ref a2)] [])
    refine own_by (fun t_ k_ => XS.aloadN X251.here hx rfl (hb hby d5_82) rfl rfl k_) ?_
    show own_Go p e below _ T251 (mkF m 83 #[.val (.ref a1), .val (.ref a2)] [(.ref a2)])
    have n263 : a2 ≠ r3 := Nat.ne_of_lt (Nat.lt_trans q0 (Nat.lt_trans q1 (Nat.lt_trans q2 (Nat.lt_trans q3 (Nat.lt_trans q4 (Nat.lt_trans q5 (Nat.lt_trans q6 (Nat.lt_trans q7 (Nat.lt_trans q8 (Nat.lt_trans q9 (Nat.lt_trans q10 (Nat.lt_trans q11 (Nat.lt_trans q12 q13)))))))))))))
    have Fo_visit_264 : Fld Z h251 a2 "com/example/wayfold/wayfold/engine/DayTiming$Timeline" "visit" "[D" (.ref o4) := (Fld.keep (Fld.keep (Fld.keep (Fld.keep (Fld.other W202 Fo_visit (Or.inl n204)) K209q (ninS n215 nin0)) K221q (ninS n229 nin0)) K235q (ninS n245 nin0)) K251q (ninS n263 nin0))
    refine own_getF X251 hx hZ hown (own_w hw 21 rfl) Via.refl e251 Fo_visit_264 (hb hby d5_83) ?_
    intro T262 X262 e262
    show own_Go p e below _ T262 (mkF m 86 #[.val (.ref a1), .val (.ref a2)] [(.ref o4)])
    refine own_by (fun t_ k_ => XS.iconst X262.here hx rfl (hb hby d5_86) k_) ?_
    show own_Go p e below _ T262 (mkF m 87 #[.val (.ref a1), .val (.ref a2)] [(.int (0 : Int32)), (.ref o4)])
    refine own_by (fun t_ k_ => XS.aloadN X262.here hx rfl (hb hby d5_87) rfl rfl k_) ?_
    show own_Go p e below _ T262 (mkF m 88 #[.val (.ref a1), .val (.ref a2)] [(.ref a1), (.int (0 : Int32)), (.ref o4)])
    have Fr_visit_266 : Fld Z h251 a1 "com/example/wayfold/wayfold/engine/DayTiming$Timeline" "visit" "[D" (.ref r4) := (Fld.keep (Fld.keep (Fld.keep (Fld.keep (Fld.other W202 Fr_visit (Or.inr (slot_ne (Or.inr (own_w hw 22 rfl)) (Or.inl (own_w hw 32 rfl)) (by decide) (t := (.array .double)) (t' := .int) (by decide) (by decide)))) K209q (ninS n212 nin0)) K221q (ninS n225 nin0)) K235q (ninS n240 nin0)) K251q (ninS n257 nin0))
    refine own_getF X262 hx hZ hown (own_w hw 21 rfl) Via.refl e262 Fr_visit_266 (hb hby d5_88) ?_
    intro T265 X265 e265
    show own_Go p e below _ T265 (mkF m 91 #[.val (.ref a1), .val (.ref a2)] [(.ref r4), (.int (0 : Int32)), (.ref o4)])
    refine own_by (fun t_ k_ => XS.iconst X265.here hx rfl (hb hby d5_91) k_) ?_
    show own_Go p e below _ T265 (mkF m 92 #[.val (.ref a1), .val (.ref a2)] [(.int (0 : Int32)), (.ref r4), (.int (0 : Int32)), (.ref o4)])
    refine own_by (fun t_ k_ => XS.aloadN X265.here hx rfl (hb hby d5_92) rfl rfl k_) ?_
    show own_Go p e below _ T265 (mkF m 93 #[.val (.ref a1), .val (.ref a2)] [(.ref a1), (.int (0 : Int32)), (.ref r4), (.int (0 : Int32)), (.ref o4)])
    have F202_268 : Fld Z h251 a1 "com/example/wayfold/wayfold/engine/DayTiming$Timeline" "length" "I" (.int (1 : Int32)) := (Fld.keep F202_250 K251q (ninS n257 nin0))
    refine own_getF X265 hx hZ hown (own_w hw 54 rfl) Via.refl e265 F202_268 (hb hby d5_93) ?_
    intro T267 X267 e267
    show own_Go p e below _ T267 (mkF m 96 #[.val (.ref a1), .val (.ref a2)] [(.int (1 : Int32)), (.int (0 : Int32)), (.ref r4), (.int (0 : Int32)), (.ref o4)])
    refine own_by (fun t_ k_ => XS.iconst X267.here hx rfl (hb hby d5_96) k_) ?_
    show own_Go p e below _ T267 (mkF m 97 #[.val (.ref a1), .val (.ref a2)] [(.int (1 : Int32)), (.int (1 : Int32)), (.int (0 : Int32)), (.ref r4), (.int (0 : Int32)), (.ref o4)])
    refine own_by (fun t_ k_ => XS.iadd X267.here hx rfl (hb hby d5_97) rfl k_) ?_
    show own_Go p e below _ T267 (mkF m 98 #[.val (.ref a1), .val (.ref a2)] [(.int (2 : Int32)), (.int (0 : Int32)), (.ref r4), (.int (0 : Int32)), (.ref o4)])
    have n270 : o4 ≠ a1 := Nat.ne_of_lt (Nat.lt_trans q5 (Nat.lt_trans q6 (Nat.lt_trans q7 (Nat.lt_trans q8 q9))))
    have n271 : o4 ≠ r0 := Nat.ne_of_lt (Nat.lt_trans q5 (Nat.lt_trans q6 (Nat.lt_trans q7 (Nat.lt_trans q8 (Nat.lt_trans q9 q10)))))
    have n272 : o4 ≠ r1 := Nat.ne_of_lt (Nat.lt_trans q5 (Nat.lt_trans q6 (Nat.lt_trans q7 (Nat.lt_trans q8 (Nat.lt_trans q9 (Nat.lt_trans q10 q11))))))
    have n273 : o4 ≠ r2 := Nat.ne_of_lt (Nat.lt_trans q5 (Nat.lt_trans q6 (Nat.lt_trans q7 (Nat.lt_trans q8 (Nat.lt_trans q9 (Nat.lt_trans q10 (Nat.lt_trans q11 q12)))))))
    have n274 : o4 ≠ r3 := Nat.ne_of_lt (Nat.lt_trans q5 (Nat.lt_trans q6 (Nat.lt_trans q7 (Nat.lt_trans q8 (Nat.lt_trans q9 (Nat.lt_trans q10 (Nat.lt_trans q11 (Nat.lt_trans q12 q13))))))))
    have Vo4_275 : own_Arr Z h251 o4 .double [y40, y41, y42] := (own_Arr.keep (own_Arr.keep (own_Arr.keep (own_Arr.keep (own_Arr.other Vo4 W202 n270) K209q (ninS n271 nin0)) K221q (ninS n272 nin0)) K235q (ninS n273 nin0)) K251q (ninS n274 nin0))
    have n276 : a1 ≠ r4 := Nat.ne_of_lt (Nat.lt_trans q10 (Nat.lt_trans q11 (Nat.lt_trans q12 (Nat.lt_trans q13 q14))))
    have n277 : r0 ≠ r4 := Nat.ne_of_lt (Nat.lt_trans q11 (Nat.lt_trans q12 (Nat.lt_trans q13 q14)))
    have n278 : r1 ≠ r4 := Nat.ne_of_lt (Nat.lt_trans q12 (Nat.lt_trans q13 q14))
    have n279 : r2 ≠ r4 := Nat.ne_of_lt (Nat.lt_trans q13 q14)
    have n280 : r3 ≠ r4 := Nat.ne_of_lt q14
    have Vr4_281 : own_Arr Z h251 r4 .double [x40, x41, x42] := (own_Arr.keep (own_Arr.keep (own_Arr.keep (own_Arr.keep (own_Arr.other Vr4 W202 (Ne.symm n276)) K209q (ninS (Ne.symm n277) nin0)) K221q (ninS (Ne.symm n278) nin0)) K235q (ninS (Ne.symm n279) nin0)) K251q (ninS (Ne.symm n280) nin0))
    refine own_cpA X267 hx hZ hown (own_w hw 55 rfl) (own_w hw 58 rfl) (own_w hw 56 rfl) (own_w hw 57 rfl) e267 Vo4_275 Vr4_281 rfl 0 0 2 (by decide) (by decide) (by decide) (by simp) (by simp) N251 g_r4 (by rw [hml]; rfl) (hb hby d5_98) (by decide) (W := 0) (Nat.le_of_eq rfl) (by decide) ?_
    intro T269 h269 L269 X269 e269 N269 K269q A269
    have sz269 : n0 ≤ h269.size := Nat.le_trans sz251 K269q.1
    have K269 : Keep h0 h269 [a1, r0, r1, r2, r3, r4, r5, r6, r7, r8] := K251.trans K269q (allS (Or.inl (by simp)) all0)
    have V269_0 : own_Arr Z h269 r4 .double [y40, y41, x42] := A269
    show own_Go p e below _ T269 (mkF m 101 #[.val (.ref a1), .val (.ref a2)] [])
    refine own_by (fun t_ k_ => XS.aloadN X269.here hx rfl (hb hby d5_101) rfl rfl k_) ?_
    show own_Go p e below _ T269 (mkF m 102 #[.val (.ref a1), .val (.ref a2)] [(.ref a2)])
    have n283 : a2 ≠ r4 := Nat.ne_of_lt (Nat.lt_trans q0 (Nat.lt_trans q1 (Nat.lt_trans q2 (Nat.lt_trans q3 (Nat.lt_trans q4 (Nat.lt_trans q5 (Nat.lt_trans q6 (Nat.lt_trans q7 (Nat.lt_trans q8 (Nat.lt_trans q9 (Nat.lt_trans q10 (Nat.lt_trans q11 (Nat.lt_trans q12 (Nat.lt_trans q13 q14))))))))))))))
    have Fo_waiting_284 : Fld Z h269 a2 "com/example/wayfold/wayfold/engine/DayTiming$Timeline" "waiting" "[D" (.ref o5) := (Fld.keep (Fld.keep (Fld.keep (Fld.keep (Fld.keep (Fld.other W202 Fo_waiting (Or.inl n204)) K209q (ninS n215 nin0)) K221q (ninS n229 nin0)) K235q (ninS n245 nin0)) K251q (ninS n263 nin0)) K269q (ninS n283 nin0))
    refine own_getF X269 hx hZ hown (own_w hw 23 rfl) Via.refl e269 Fo_waiting_284 (hb hby d5_102) ?_
    intro T282 X282 e282
    show own_Go p e below _ T282 (mkF m 105 #[.val (.ref a1), .val (.ref a2)] [(.ref o5)])
    refine own_by (fun t_ k_ => XS.iconst X282.here hx rfl (hb hby d5_105) k_) ?_
    show own_Go p e below _ T282 (mkF m 106 #[.val (.ref a1), .val (.ref a2)] [(.int (0 : Int32)), (.ref o5)])
    refine own_by (fun t_ k_ => XS.aloadN X282.here hx rfl (hb hby d5_106) rfl rfl k_) ?_
    show own_Go p e below _ T282 (mkF m 107 #[.val (.ref a1), .val (.ref a2)] [(.ref a1), (.int (0 : Int32)), (.ref o5)])
    have Fr_waiting_286 : Fld Z h269 a1 "com/example/wayfold/wayfold/engine/DayTiming$Timeline" "waiting" "[D" (.ref r5) := (Fld.keep (Fld.keep (Fld.keep (Fld.keep (Fld.keep (Fld.other W202 Fr_waiting (Or.inr (slot_ne (Or.inr (own_w hw 24 rfl)) (Or.inl (own_w hw 32 rfl)) (by decide) (t := (.array .double)) (t' := .int) (by decide) (by decide)))) K209q (ninS n212 nin0)) K221q (ninS n225 nin0)) K235q (ninS n240 nin0)) K251q (ninS n257 nin0)) K269q (ninS n276 nin0))
    refine own_getF X282 hx hZ hown (own_w hw 23 rfl) Via.refl e282 Fr_waiting_286 (hb hby d5_107) ?_
    intro T285 X285 e285
    show own_Go p e below _ T285 (mkF m 110 #[.val (.ref a1), .val (.ref a2)] [(.ref r5), (.int (0 : Int32)), (.ref o5)])
    refine own_by (fun t_ k_ => XS.iconst X285.here hx rfl (hb hby d5_110) k_) ?_
    show own_Go p e below _ T285 (mkF m 111 #[.val (.ref a1), .val (.ref a2)] [(.int (0 : Int32)), (.ref r5), (.int (0 : Int32)), (.ref o5)])
    refine own_by (fun t_ k_ => XS.aloadN X285.here hx rfl (hb hby d5_111) rfl rfl k_) ?_
    show own_Go p e below _ T285 (mkF m 112 #[.val (.ref a1), .val (.ref a2)] [(.ref a1), (.int (0 : Int32)), (.ref r5), (.int (0 : Int32)), (.ref o5)])
    have F202_288 : Fld Z h269 a1 "com/example/wayfold/wayfold/engine/DayTiming$Timeline" "length" "I" (.int (1 : Int32)) := (Fld.keep F202_268 K269q (ninS n276 nin0))
    refine own_getF X285 hx hZ hown (own_w hw 54 rfl) Via.refl e285 F202_288 (hb hby d5_112) ?_
    intro T287 X287 e287
    show own_Go p e below _ T287 (mkF m 115 #[.val (.ref a1), .val (.ref a2)] [(.int (1 : Int32)), (.int (0 : Int32)), (.ref r5), (.int (0 : Int32)), (.ref o5)])
    refine own_by (fun t_ k_ => XS.iconst X287.here hx rfl (hb hby d5_115) k_) ?_
    show own_Go p e below _ T287 (mkF m 116 #[.val (.ref a1), .val (.ref a2)] [(.int (1 : Int32)), (.int (1 : Int32)), (.int (0 : Int32)), (.ref r5), (.int (0 : Int32)), (.ref o5)])
    refine own_by (fun t_ k_ => XS.iadd X287.here hx rfl (hb hby d5_116) rfl k_) ?_
    show own_Go p e below _ T287 (mkF m 117 #[.val (.ref a1), .val (.ref a2)] [(.int (2 : Int32)), (.int (0 : Int32)), (.ref r5), (.int (0 : Int32)), (.ref o5)])
    have n290 : o5 ≠ a1 := Nat.ne_of_lt (Nat.lt_trans q6 (Nat.lt_trans q7 (Nat.lt_trans q8 q9)))
    have n291 : o5 ≠ r0 := Nat.ne_of_lt (Nat.lt_trans q6 (Nat.lt_trans q7 (Nat.lt_trans q8 (Nat.lt_trans q9 q10))))
    have n292 : o5 ≠ r1 := Nat.ne_of_lt (Nat.lt_trans q6 (Nat.lt_trans q7 (Nat.lt_trans q8 (Nat.lt_trans q9 (Nat.lt_trans q10 q11)))))
    have n293 : o5 ≠ r2 := Nat.ne_of_lt (Nat.lt_trans q6 (Nat.lt_trans q7 (Nat.lt_trans q8 (Nat.lt_trans q9 (Nat.lt_trans q10 (Nat.lt_trans q11 q12))))))
    have n294 : o5 ≠ r3 := Nat.ne_of_lt (Nat.lt_trans q6 (Nat.lt_trans q7 (Nat.lt_trans q8 (Nat.lt_trans q9 (Nat.lt_trans q10 (Nat.lt_trans q11 (Nat.lt_trans q12 q13)))))))
    have n295 : o5 ≠ r4 := Nat.ne_of_lt (Nat.lt_trans q6 (Nat.lt_trans q7 (Nat.lt_trans q8 (Nat.lt_trans q9 (Nat.lt_trans q10 (Nat.lt_trans q11 (Nat.lt_trans q12 (Nat.lt_trans q13 q14))))))))
    have Vo5_296 : own_Arr Z h269 o5 .double [y50, y51, y52] := (own_Arr.keep (own_Arr.keep (own_Arr.keep (own_Arr.keep (own_Arr.keep (own_Arr.other Vo5 W202 n290) K209q (ninS n291 nin0)) K221q (ninS n292 nin0)) K235q (ninS n293 nin0)) K251q (ninS n294 nin0)) K269q (ninS n295 nin0))
    have n297 : a1 ≠ r5 := Nat.ne_of_lt (Nat.lt_trans q10 (Nat.lt_trans q11 (Nat.lt_trans q12 (Nat.lt_trans q13 (Nat.lt_trans q14 q15)))))
    have n298 : r0 ≠ r5 := Nat.ne_of_lt (Nat.lt_trans q11 (Nat.lt_trans q12 (Nat.lt_trans q13 (Nat.lt_trans q14 q15))))
    have n299 : r1 ≠ r5 := Nat.ne_of_lt (Nat.lt_trans q12 (Nat.lt_trans q13 (Nat.lt_trans q14 q15)))
    have n300 : r2 ≠ r5 := Nat.ne_of_lt (Nat.lt_trans q13 (Nat.lt_trans q14 q15))
    have n301 : r3 ≠ r5 := Nat.ne_of_lt (Nat.lt_trans q14 q15)
    have n302 : r4 ≠ r5 := Nat.ne_of_lt q15
    have Vr5_303 : own_Arr Z h269 r5 .double [x50, x51, x52] := (own_Arr.keep (own_Arr.keep (own_Arr.keep (own_Arr.keep (own_Arr.keep (own_Arr.other Vr5 W202 (Ne.symm n297)) K209q (ninS (Ne.symm n298) nin0)) K221q (ninS (Ne.symm n299) nin0)) K235q (ninS (Ne.symm n300) nin0)) K251q (ninS (Ne.symm n301) nin0)) K269q (ninS (Ne.symm n302) nin0))
    refine own_cpA X287 hx hZ hown (own_w hw 55 rfl) (own_w hw 58 rfl) (own_w hw 56 rfl) (own_w hw 57 rfl) e287 Vo5_296 Vr5_303 rfl 0 0 2 (by decide) (by decide) (by decide) (by simp) (by simp) N269 g_r5 (by rw [hml]; rfl) (hb hby d5_117) (by decide) (W := 0) (Nat.le_of_eq rfl) (by decide) ?_
    intro T289 h289 L289 X289 e289 N289 K289q A289
    have sz289 : n0 ≤ h289.size := Nat.le_trans sz269 K289q.1
    have K289 : Keep h0 h289 [a1, r0, r1, r2, r3, r4, r5, r6, r7, r8] := K269.trans K289q (allS (Or.inl (by simp)) all0)
    have V289_0 : own_Arr Z h289 r5 .double [y50, y51, x52] := A289
    show own_Go p e below _ T289 (mkF m 120 #[.val (.ref a1), .val (.ref a2)] [])
    refine own_by (fun t_ k_ => XS.aloadN X289.here hx rfl (hb hby d5_120) rfl rfl k_) ?_
    show own_Go p e below _ T289 (mkF m 121 #[.val (.ref a1), .val (.ref a2)] [(.ref a2)])
    have n305 : a2 ≠ r5 := Nat.ne_of_lt (Nat.lt_trans q0 (Nat.lt_trans q1 (Nat.lt_trans q2 (Nat.lt_trans q3 (Nat.lt_trans q4 (Nat.lt_trans q5 (Nat.lt_trans q6 (Nat.lt_trans q7 (Nat.lt_trans q8 (Nat.lt_trans q9 (Nat.lt_trans q10 (Nat.lt_trans q11 (Nat.lt_trans q12 (Nat.lt_trans q13 (Nat.lt_trans q14 q15)))))))))))))))
    have Fo_load_306 : Fld Z h289 a2 "com/example/wayfold/wayfold/engine/DayTiming$Timeline" "load" "[D" (.ref o6) := (Fld.keep (Fld.keep (Fld.keep (Fld.keep (Fld.keep (Fld.keep (Fld.other W202 Fo_load (Or.inl n204)) K209q (ninS n215 nin0)) K221q (ninS n229 nin0)) K235q (ninS n245 nin0)) K251q (ninS n263 nin0)) K269q (ninS n283 nin0)) K289q (ninS n305 nin0))
    refine own_getF X289 hx hZ hown (own_w hw 25 rfl) Via.refl e289 Fo_load_306 (hb hby d5_121) ?_
    intro T304 X304 e304
    show own_Go p e below _ T304 (mkF m 124 #[.val (.ref a1), .val (.ref a2)] [(.ref o6)])
    refine own_by (fun t_ k_ => XS.iconst X304.here hx rfl (hb hby d5_124) k_) ?_
    show own_Go p e below _ T304 (mkF m 125 #[.val (.ref a1), .val (.ref a2)] [(.int (0 : Int32)), (.ref o6)])
    refine own_by (fun t_ k_ => XS.aloadN X304.here hx rfl (hb hby d5_125) rfl rfl k_) ?_
    show own_Go p e below _ T304 (mkF m 126 #[.val (.ref a1), .val (.ref a2)] [(.ref a1), (.int (0 : Int32)), (.ref o6)])
    have Fr_load_308 : Fld Z h289 a1 "com/example/wayfold/wayfold/engine/DayTiming$Timeline" "load" "[D" (.ref r6) := (Fld.keep (Fld.keep (Fld.keep (Fld.keep (Fld.keep (Fld.keep (Fld.other W202 Fr_load (Or.inr (slot_ne (Or.inr (own_w hw 26 rfl)) (Or.inl (own_w hw 32 rfl)) (by decide) (t := (.array .double)) (t' := .int) (by decide) (by decide)))) K209q (ninS n212 nin0)) K221q (ninS n225 nin0)) K235q (ninS n240 nin0)) K251q (ninS n257 nin0)) K269q (ninS n276 nin0)) K289q (ninS n297 nin0))
    refine own_getF X304 hx hZ hown (own_w hw 25 rfl) Via.refl e304 Fr_load_308 (hb hby d5_126) ?_
    intro T307 X307 e307
    show own_Go p e below _ T307 (mkF m 129 #[.val (.ref a1), .val (.ref a2)] [(.ref r6), (.int (0 : Int32)), (.ref o6)])
    refine own_by (fun t_ k_ => XS.iconst X307.here hx rfl (hb hby d5_129) k_) ?_
    show own_Go p e below _ T307 (mkF m 130 #[.val (.ref a1), .val (.ref a2)] [(.int (0 : Int32)), (.ref r6), (.int (0 : Int32)), (.ref o6)])
    refine own_by (fun t_ k_ => XS.aloadN X307.here hx rfl (hb hby d5_130) rfl rfl k_) ?_
    show own_Go p e below _ T307 (mkF m 131 #[.val (.ref a1), .val (.ref a2)] [(.ref a1), (.int (0 : Int32)), (.ref r6), (.int (0 : Int32)), (.ref o6)])
    have F202_310 : Fld Z h289 a1 "com/example/wayfold/wayfold/engine/DayTiming$Timeline" "length" "I" (.int (1 : Int32)) := (Fld.keep F202_288 K289q (ninS n297 nin0))
    refine own_getF X307 hx hZ hown (own_w hw 54 rfl) Via.refl e307 F202_310 (hb hby d5_131) ?_
    intro T309 X309 e309
    show own_Go p e below _ T309 (mkF m 134 #[.val (.ref a1), .val (.ref a2)] [(.int (1 : Int32)), (.int (0 : Int32)), (.ref r6), (.int (0 : Int32)), (.ref o6)])
    refine own_by (fun t_ k_ => XS.iconst X309.here hx rfl (hb hby d5_134) k_) ?_
    show own_Go p e below _ T309 (mkF m 135 #[.val (.ref a1), .val (.ref a2)] [(.int (1 : Int32)), (.int (1 : Int32)), (.int (0 : Int32)), (.ref r6), (.int (0 : Int32)), (.ref o6)])
    refine own_by (fun t_ k_ => XS.iadd X309.here hx rfl (hb hby d5_135) rfl k_) ?_
    show own_Go p e below _ T309 (mkF m 136 #[.val (.ref a1), .val (.ref a2)] [(.int (2 : Int32)), (.int (0 : Int32)), (.ref r6), (.int (0 : Int32)), (.ref o6)])
    have n312 : o6 ≠ a1 := Nat.ne_of_lt (Nat.lt_trans q7 (Nat.lt_trans q8 q9))
    have n313 : o6 ≠ r0 := Nat.ne_of_lt (Nat.lt_trans q7 (Nat.lt_trans q8 (Nat.lt_trans q9 q10)))
    have n314 : o6 ≠ r1 := Nat.ne_of_lt (Nat.lt_trans q7 (Nat.lt_trans q8 (Nat.lt_trans q9 (Nat.lt_trans q10 q11))))
    have n315 : o6 ≠ r2 := Nat.ne_of_lt (Nat.lt_trans q7 (Nat.lt_trans q8 (Nat.lt_trans q9 (Nat.lt_trans q10 (Nat.lt_trans q11 q12)))))
    have n316 : o6 ≠ r3 := Nat.ne_of_lt (Nat.lt_trans q7 (Nat.lt_trans q8 (Nat.lt_trans q9 (Nat.lt_trans q10 (Nat.lt_trans q11 (Nat.lt_trans q12 q13))))))
    have n317 : o6 ≠ r4 := Nat.ne_of_lt (Nat.lt_trans q7 (Nat.lt_trans q8 (Nat.lt_trans q9 (Nat.lt_trans q10 (Nat.lt_trans q11 (Nat.lt_trans q12 (Nat.lt_trans q13 q14)))))))
    have n318 : o6 ≠ r5 := Nat.ne_of_lt (Nat.lt_trans q7 (Nat.lt_trans q8 (Nat.lt_trans q9 (Nat.lt_trans q10 (Nat.lt_trans q11 (Nat.lt_trans q12 (Nat.lt_trans q13 (Nat.lt_trans q14 q15))))))))
    have Vo6_319 : own_Arr Z h289 o6 .double [y60, y61, y62] := (own_Arr.keep (own_Arr.keep (own_Arr.keep (own_Arr.keep (own_Arr.keep (own_Arr.keep (own_Arr.other Vo6 W202 n312) K209q (ninS n313 nin0)) K221q (ninS n314 nin0)) K235q (ninS n315 nin0)) K251q (ninS n316 nin0)) K269q (ninS n317 nin0)) K289q (ninS n318 nin0))
    have n320 : a1 ≠ r6 := Nat.ne_of_lt (Nat.lt_trans q10 (Nat.lt_trans q11 (Nat.lt_trans q12 (Nat.lt_trans q13 (Nat.lt_trans q14 (Nat.lt_trans q15 q16))))))
    have n321 : r0 ≠ r6 := Nat.ne_of_lt (Nat.lt_trans q11 (Nat.lt_trans q12 (Nat.lt_trans q13 (Nat.lt_trans q14 (Nat.lt_trans q15 q16)))))
    have n322 : r1 ≠ r6 := Nat.ne_of_lt (Nat.lt_trans q12 (Nat.lt_trans q13 (Nat.lt_trans q14 (Nat.lt_trans q15 q16))))
    have n323 : r2 ≠ r6 := Nat.ne_of_lt (Nat.lt_trans q13 (Nat.lt_trans q14 (Nat.lt_trans q15 q16)))
    have n324 : r3 ≠ r6 := Nat.ne_of_lt (Nat.lt_trans q14 (Nat.lt_trans q15 q16))
    have n325 : r4 ≠ r6 := Nat.ne_of_lt (Nat.lt_trans q15 q16)
    have n326 : r5 ≠ r6 := Nat.ne_of_lt q16
    have Vr6_327 : own_Arr Z h289 r6 .double [x60, x61, x62] := (own_Arr.keep (own_Arr.keep (own_Arr.keep (own_Arr.keep (own_Arr.keep (own_Arr.keep (own_Arr.other Vr6 W202 (Ne.symm n320)) K209q (ninS (Ne.symm n321) nin0)) K221q (ninS (Ne.symm n322) nin0)) K235q (ninS (Ne.symm n323) nin0)) K251q (ninS (Ne.symm n324) nin0)) K269q (ninS (Ne.symm n325) nin0)) K289q (ninS (Ne.symm n326) nin0))
    refine own_cpA X309 hx hZ hown (own_w hw 55 rfl) (own_w hw 58 rfl) (own_w hw 56 rfl) (own_w hw 57 rfl) e309 Vo6_319 Vr6_327 rfl 0 0 2 (by decide) (by decide) (by decide) (by simp) (by simp) N289 g_r6 (by rw [hml]; rfl) (hb hby d5_136) (by decide) (W := 0) (Nat.le_of_eq rfl) (by decide) ?_
    intro T311 h311 L311 X311 e311 N311 K311q A311
    have sz311 : n0 ≤ h311.size := Nat.le_trans sz289 K311q.1
    have K311 : Keep h0 h311 [a1, r0, r1, r2, r3, r4, r5, r6, r7, r8] := K289.trans K311q (allS (Or.inl (by simp)) all0)
    have V311_0 : own_Arr Z h311 r6 .double [y60, y61, x62] := A311
    show own_Go p e below _ T311 (mkF m 139 #[.val (.ref a1), .val (.ref a2)] [])
    refine own_by (fun t_ k_ => XS.aloadN X311.here hx rfl (hb hby d5_139) rfl rfl k_) ?_
    show own_Go p e below _ T311 (mkF m 140 #[.val (.ref a1), .val (.ref a2)] [(.ref a2)])
    have n329 : a2 ≠ r6 := Nat.ne_of_lt (Nat.lt_trans q0 (Nat.lt_trans q1 (Nat.lt_trans q2 (Nat.lt_trans q3 (Nat.lt_trans q4 (Nat.lt_trans q5 (Nat.lt_trans q6 (Nat.lt_trans q7 (Nat.lt_trans q8 (Nat.lt_trans q9 (Nat.lt_trans q10 (Nat.lt_trans q11 (Nat.lt_trans q12 (Nat.lt_trans q13 (Nat.lt_trans q14 (Nat.lt_trans q15 q16))))))))))))))))
    have Fo_latest_330 : Fld Z h311 a2 "com/example/wayfold/wayfold/engine/DayTiming$Timeline" "latest" "[D" (.ref o7) := (Fld.keep (Fld.keep (Fld.keep (Fld.keep (Fld.keep (Fld.keep (Fld.keep (Fld.other W202 Fo_latest (Or.inl n204)) K209q (ninS n215 nin0)) K221q (ninS n229 nin0)) K235q (ninS n245 nin0)) K251q (ninS n263 nin0)) K269q (ninS n283 nin0)) K289q (ninS n305 nin0)) K311q (ninS n329 nin0))
    refine own_getF X311 hx hZ hown (own_w hw 27 rfl) Via.refl e311 Fo_latest_330 (hb hby d5_140) ?_
    intro T328 X328 e328
    show own_Go p e below _ T328 (mkF m 143 #[.val (.ref a1), .val (.ref a2)] [(.ref o7)])
    refine own_by (fun t_ k_ => XS.iconst X328.here hx rfl (hb hby d5_143) k_) ?_
    show own_Go p e below _ T328 (mkF m 144 #[.val (.ref a1), .val (.ref a2)] [(.int (0 : Int32)), (.ref o7)])
    refine own_by (fun t_ k_ => XS.aloadN X328.here hx rfl (hb hby d5_144) rfl rfl k_) ?_
    show own_Go p e below _ T328 (mkF m 145 #[.val (.ref a1), .val (.ref a2)] [(.ref a1), (.int (0 : Int32)), (.ref o7)])
    have Fr_latest_332 : Fld Z h311 a1 "com/example/wayfold/wayfold/engine/DayTiming$Timeline" "latest" "[D" (.ref r7) := (Fld.keep (Fld.keep (Fld.keep (Fld.keep (Fld.keep (Fld.keep (Fld.keep (Fld.other W202 Fr_latest (Or.inr (slot_ne (Or.inr (own_w hw 28 rfl)) (Or.inl (own_w hw 32 rfl)) (by decide) (t := (.array .double)) (t' := .int) (by decide) (by decide)))) K209q (ninS n212 nin0)) K221q (ninS n225 nin0)) K235q (ninS n240 nin0)) K251q (ninS n257 nin0)) K269q (ninS n276 nin0)) K289q (ninS n297 nin0)) K311q (ninS n320 nin0))
    refine own_getF X328 hx hZ hown (own_w hw 27 rfl) Via.refl e328 Fr_latest_332 (hb hby d5_145) ?_
    intro T331 X331 e331
    show own_Go p e below _ T331 (mkF m 148 #[.val (.ref a1), .val (.ref a2)] [(.ref r7), (.int (0 : Int32)), (.ref o7)])
    refine own_by (fun t_ k_ => XS.iconst X331.here hx rfl (hb hby d5_148) k_) ?_
    show own_Go p e below _ T331 (mkF m 149 #[.val (.ref a1), .val (.ref a2)] [(.int (0 : Int32)), (.ref r7), (.int (0 : Int32)), (.ref o7)])
    refine own_by (fun t_ k_ => XS.aloadN X331.here hx rfl (hb hby d5_149) rfl rfl k_) ?_
    show own_Go p e below _ T331 (mkF m 150 #[.val (.ref a1), .val (.ref a2)] [(.ref a1), (.int (0 : Int32)), (.ref r7), (.int (0 : Int32)), (.ref o7)])
    have F202_334 : Fld Z h311 a1 "com/example/wayfold/wayfold/engine/DayTiming$Timeline" "length" "I" (.int (1 : Int32)) := (Fld.keep F202_310 K311q (ninS n320 nin0))
    refine own_getF X331 hx hZ hown (own_w hw 54 rfl) Via.refl e331 F202_334 (hb hby d5_150) ?_
    intro T333 X333 e333
    show own_Go p e below _ T333 (mkF m 153 #[.val (.ref a1), .val (.ref a2)] [(.int (1 : Int32)), (.int (0 : Int32)), (.ref r7), (.int (0 : Int32)), (.ref o7)])
    refine own_by (fun t_ k_ => XS.iconst X333.here hx rfl (hb hby d5_153) k_) ?_
    show own_Go p e below _ T333 (mkF m 154 #[.val (.ref a1), .val (.ref a2)] [(.int (1 : Int32)), (.int (1 : Int32)), (.int (0 : Int32)), (.ref r7), (.int (0 : Int32)), (.ref o7)])
    refine own_by (fun t_ k_ => XS.iadd X333.here hx rfl (hb hby d5_154) rfl k_) ?_
    show own_Go p e below _ T333 (mkF m 155 #[.val (.ref a1), .val (.ref a2)] [(.int (2 : Int32)), (.int (0 : Int32)), (.ref r7), (.int (0 : Int32)), (.ref o7)])
    have n336 : o7 ≠ a1 := Nat.ne_of_lt (Nat.lt_trans q8 q9)
    have n337 : o7 ≠ r0 := Nat.ne_of_lt (Nat.lt_trans q8 (Nat.lt_trans q9 q10))
    have n338 : o7 ≠ r1 := Nat.ne_of_lt (Nat.lt_trans q8 (Nat.lt_trans q9 (Nat.lt_trans q10 q11)))
    have n339 : o7 ≠ r2 := Nat.ne_of_lt (Nat.lt_trans q8 (Nat.lt_trans q9 (Nat.lt_trans q10 (Nat.lt_trans q11 q12))))
    have n340 : o7 ≠ r3 := Nat.ne_of_lt (Nat.lt_trans q8 (Nat.lt_trans q9 (Nat.lt_trans q10 (Nat.lt_trans q11 (Nat.lt_trans q12 q13)))))
    have n341 : o7 ≠ r4 := Nat.ne_of_lt (Nat.lt_trans q8 (Nat.lt_trans q9 (Nat.lt_trans q10 (Nat.lt_trans q11 (Nat.lt_trans q12 (Nat.lt_trans q13 q14))))))
    have n342 : o7 ≠ r5 := Nat.ne_of_lt (Nat.lt_trans q8 (Nat.lt_trans q9 (Nat.lt_trans q10 (Nat.lt_trans q11 (Nat.lt_trans q12 (Nat.lt_trans q13 (Nat.lt_trans q14 q15)))))))
    have n343 : o7 ≠ r6 := Nat.ne_of_lt (Nat.lt_trans q8 (Nat.lt_trans q9 (Nat.lt_trans q10 (Nat.lt_trans q11 (Nat.lt_trans q12 (Nat.lt_trans q13 (Nat.lt_trans q14 (Nat.lt_trans q15 q16))))))))
    have Vo7_344 : own_Arr Z h311 o7 .double [y70, y71, y72] := (own_Arr.keep (own_Arr.keep (own_Arr.keep (own_Arr.keep (own_Arr.keep (own_Arr.keep (own_Arr.keep (own_Arr.other Vo7 W202 n336) K209q (ninS n337 nin0)) K221q (ninS n338 nin0)) K235q (ninS n339 nin0)) K251q (ninS n340 nin0)) K269q (ninS n341 nin0)) K289q (ninS n342 nin0)) K311q (ninS n343 nin0))
    have n345 : a1 ≠ r7 := Nat.ne_of_lt (Nat.lt_trans q10 (Nat.lt_trans q11 (Nat.lt_trans q12 (Nat.lt_trans q13 (Nat.lt_trans q14 (Nat.lt_trans q15 (Nat.lt_trans q16 q17)))))))
    have n346 : r0 ≠ r7 := Nat.ne_of_lt (Nat.lt_trans q11 (Nat.lt_trans q12 (Nat.lt_trans q13 (Nat.lt_trans q14 (Nat.lt_trans q15 (Nat.lt_trans q16 q17))))))
    have n347 : r1 ≠ r7 := Nat.ne_of_lt (Nat.lt_trans q12 (Nat.lt_trans q13 (Nat.lt_trans q14 (Nat.lt_trans q15 (Nat.lt_trans q16 q17)))))
    have n348 : r2 ≠ r7 := Nat.ne_of_lt (Nat.lt_trans q13 (Nat.lt_trans q14 (Nat.lt_trans q15 (Nat.lt_trans q16 q17))))
    have n349 : r3 ≠ r7 := Nat.ne_of_lt (Nat.lt_trans q14 (Nat.lt_trans q15 (Nat.lt_trans q16 q17)))
    have n350 : r4 ≠ r7 := Nat.ne_of_lt (Nat.lt_trans q15 (Nat.lt_trans q16 q17))
    have n351 : r5 ≠ r7 := Nat.ne_of_lt (Nat.lt_trans q16 q17)
    have n352 : r6 ≠ r7 := Nat.ne_of_lt q17
    have Vr7_353 : own_Arr Z h311 r7 .double [x70, x71, x72] := (own_Arr.keep (own_Arr.keep (own_Arr.keep (own_Arr.keep (own_Arr.keep (own_Arr.keep (own_Arr.keep (own_Arr.other Vr7 W202 (Ne.symm n345)) K209q (ninS (Ne.symm n346) nin0)) K221q (ninS (Ne.symm n347) nin0)) K235q (ninS (Ne.symm n348) nin0)) K251q (ninS (Ne.symm n349) nin0)) K269q (ninS (Ne.symm n350) nin0)) K289q (ninS (Ne.symm n351) nin0)) K311q (ninS (Ne.symm n352) nin0))
    refine own_cpA X333 hx hZ hown (own_w hw 55 rfl) (own_w hw 58 rfl) (own_w hw 56 rfl) (own_w hw 57 rfl) e333 Vo7_344 Vr7_353 rfl 0 0 2 (by decide) (by decide) (by decide) (by simp) (by simp) N311 g_r7 (by rw [hml]; rfl) (hb hby d5_155) (by decide) (W := 0) (Nat.le_of_eq rfl) (by decide) ?_
    intro T335 h335 L335 X335 e335 N335 K335q A335
    have sz335 : n0 ≤ h335.size := Nat.le_trans sz311 K335q.1
    have K335 : Keep h0 h335 [a1, r0, r1, r2, r3, r4, r5, r6, r7, r8] := K311.trans K335q (allS (Or.inl (by simp)) all0)
    have V335_0 : own_Arr Z h335 r7 .double [y70, y71, x72] := A335
    show own_Go p e below _ T335 (mkF m 158 #[.val (.ref a1), .val (.ref a2)] [])
    refine own_by (fun t_ k_ => XS.aloadN X335.here hx rfl (hb hby d5_158) rfl rfl k_) ?_
    show own_Go p e below _ T335 (mkF m 159 #[.val (.ref a1), .val (.ref a2)] [(.ref a2)])
    have n355 : a2 ≠ r7 := Nat.ne_of_lt (Nat.lt_trans q0 (Nat.lt_trans q1 (Nat.lt_trans q2 (Nat.lt_trans q3 (Nat.lt_trans q4 (Nat.lt_trans q5 (Nat.lt_trans q6 (Nat.lt_trans q7 (Nat.lt_trans q8 (Nat.lt_trans q9 (Nat.lt_trans q10 (Nat.lt_trans q11 (Nat.lt_trans q12 (Nat.lt_trans q13 (Nat.lt_trans q14 (Nat.lt_trans q15 (Nat.lt_trans q16 q17)))))))))))))))))
    have Fo_best_356 : Fld Z h335 a2 "com/example/wayfold/wayfold/engine/DayTiming$Timeline" "best" "[D" (.ref o8) := (Fld.keep (Fld.keep (Fld.keep (Fld.keep (Fld.keep (Fld.keep (Fld.keep (Fld.keep (Fld.other W202 Fo_best (Or.inl n204)) K209q (ninS n215 nin0)) K221q (ninS n229 nin0)) K235q (ninS n245 nin0)) K251q (ninS n263 nin0)) K269q (ninS n283 nin0)) K289q (ninS n305 nin0)) K311q (ninS n329 nin0)) K335q (ninS n355 nin0))
    refine own_getF X335 hx hZ hown (own_w hw 29 rfl) Via.refl e335 Fo_best_356 (hb hby d5_159) ?_
    intro T354 X354 e354
    show own_Go p e below _ T354 (mkF m 162 #[.val (.ref a1), .val (.ref a2)] [(.ref o8)])
    refine own_by (fun t_ k_ => XS.iconst X354.here hx rfl (hb hby d5_162) k_) ?_
    show own_Go p e below _ T354 (mkF m 163 #[.val (.ref a1), .val (.ref a2)] [(.int (0 : Int32)), (.ref o8)])
    refine own_by (fun t_ k_ => XS.aloadN X354.here hx rfl (hb hby d5_163) rfl rfl k_) ?_
    show own_Go p e below _ T354 (mkF m 164 #[.val (.ref a1), .val (.ref a2)] [(.ref a1), (.int (0 : Int32)), (.ref o8)])
    have Fr_best_358 : Fld Z h335 a1 "com/example/wayfold/wayfold/engine/DayTiming$Timeline" "best" "[D" (.ref r8) := (Fld.keep (Fld.keep (Fld.keep (Fld.keep (Fld.keep (Fld.keep (Fld.keep (Fld.keep (Fld.other W202 Fr_best (Or.inr (slot_ne (Or.inr (own_w hw 30 rfl)) (Or.inl (own_w hw 32 rfl)) (by decide) (t := (.array .double)) (t' := .int) (by decide) (by decide)))) K209q (ninS n212 nin0)) K221q (ninS n225 nin0)) K235q (ninS n240 nin0)) K251q (ninS n257 nin0)) K269q (ninS n276 nin0)) K289q (ninS n297 nin0)) K311q (ninS n320 nin0)) K335q (ninS n345 nin0))
    refine own_getF X354 hx hZ hown (own_w hw 29 rfl) Via.refl e354 Fr_best_358 (hb hby d5_164) ?_
    intro T357 X357 e357
    show own_Go p e below _ T357 (mkF m 167 #[.val (.ref a1), .val (.ref a2)] [(.ref r8), (.int (0 : Int32)), (.ref o8)])
    refine own_by (fun t_ k_ => XS.iconst X357.here hx rfl (hb hby d5_167) k_) ?_
    show own_Go p e below _ T357 (mkF m 168 #[.val (.ref a1), .val (.ref a2)] [(.int (0 : Int32)), (.ref r8), (.int (0 : Int32)), (.ref o8)])
    refine own_by (fun t_ k_ => XS.aloadN X357.here hx rfl (hb hby d5_168) rfl rfl k_) ?_
    show own_Go p e below _ T357 (mkF m 169 #[.val (.ref a1), .val (.ref a2)] [(.ref a1), (.int (0 : Int32)), (.ref r8), (.int (0 : Int32)), (.ref o8)])
    have F202_360 : Fld Z h335 a1 "com/example/wayfold/wayfold/engine/DayTiming$Timeline" "length" "I" (.int (1 : Int32)) := (Fld.keep F202_334 K335q (ninS n345 nin0))
    refine own_getF X357 hx hZ hown (own_w hw 54 rfl) Via.refl e357 F202_360 (hb hby d5_169) ?_
    intro T359 X359 e359
    show own_Go p e below _ T359 (mkF m 172 #[.val (.ref a1), .val (.ref a2)] [(.int (1 : Int32)), (.int (0 : Int32)), (.ref r8), (.int (0 : Int32)), (.ref o8)])
    refine own_by (fun t_ k_ => XS.iconst X359.here hx rfl (hb hby d5_172) k_) ?_
    show own_Go p e below _ T359 (mkF m 173 #[.val (.ref a1), .val (.ref a2)] [(.int (1 : Int32)), (.int (1 : Int32)), (.int (0 : Int32)), (.ref r8), (.int (0 : Int32)), (.ref o8)])
    refine own_by (fun t_ k_ => XS.iadd X359.here hx rfl (hb hby d5_173) rfl k_) ?_
    show own_Go p e below _ T359 (mkF m 174 #[.val (.ref a1), .val (.ref a2)] [(.int (2 : Int32)), (.int (0 : Int32)), (.ref r8), (.int (0 : Int32)), (.ref o8)])
    have n362 : o8 ≠ a1 := Nat.ne_of_lt q9
    have n363 : o8 ≠ r0 := Nat.ne_of_lt (Nat.lt_trans q9 q10)
    have n364 : o8 ≠ r1 := Nat.ne_of_lt (Nat.lt_trans q9 (Nat.lt_trans q10 q11))
    have n365 : o8 ≠ r2 := Nat.ne_of_lt (Nat.lt_trans q9 (Nat.lt_trans q10 (Nat.lt_trans q11 q12)))
    have n366 : o8 ≠ r3 := Nat.ne_of_lt (Nat.lt_trans q9 (Nat.lt_trans q10 (Nat.lt_trans q11 (Nat.lt_trans q12 q13))))
    have n367 : o8 ≠ r4 := Nat.ne_of_lt (Nat.lt_trans q9 (Nat.lt_trans q10 (Nat.lt_trans q11 (Nat.lt_trans q12 (Nat.lt_trans q13 q14)))))
    have n368 : o8 ≠ r5 := Nat.ne_of_lt (Nat.lt_trans q9 (Nat.lt_trans q10 (Nat.lt_trans q11 (Nat.lt_trans q12 (Nat.lt_trans q13 (Nat.lt_trans q14 q15))))))
    have n369 : o8 ≠ r6 := Nat.ne_of_lt (Nat.lt_trans q9 (Nat.lt_trans q10 (Nat.lt_trans q11 (Nat.lt_trans q12 (Nat.lt_trans q13 (Nat.lt_trans q14 (Nat.lt_trans q15 q16)))))))
    have n370 : o8 ≠ r7 := Nat.ne_of_lt (Nat.lt_trans q9 (Nat.lt_trans q10 (Nat.lt_trans q11 (Nat.lt_trans q12 (Nat.lt_trans q13 (Nat.lt_trans q14 (Nat.lt_trans q15 (Nat.lt_trans q16 q17))))))))
    have Vo8_371 : own_Arr Z h335 o8 .double [y80, y81, y82] := (own_Arr.keep (own_Arr.keep (own_Arr.keep (own_Arr.keep (own_Arr.keep (own_Arr.keep (own_Arr.keep (own_Arr.keep (own_Arr.other Vo8 W202 n362) K209q (ninS n363 nin0)) K221q (ninS n364 nin0)) K235q (ninS n365 nin0)) K251q (ninS n366 nin0)) K269q (ninS n367 nin0)) K289q (ninS n368 nin0)) K311q (ninS n369 nin0)) K335q (ninS n370 nin0))
    have n372 : a1 ≠ r8 := Nat.ne_of_lt (Nat.lt_trans q10 (Nat.lt_trans q11 (Nat.lt_trans q12 (Nat.lt_trans q13 (Nat.lt_trans q14 (Nat.lt_trans q15 (Nat.lt_trans q16 (Nat.lt_trans q17 q18))))))))
    have n373 : r0 ≠ r8 := Nat.ne_of_lt (Nat.lt_trans q11 (Nat.lt_trans q12 (Nat.lt_trans q13 (Nat.lt_trans q14 (Nat.lt_trans q15 (Nat.lt_trans q16 (Nat.lt_trans q17 q18)))))))
    have n374 : r1 ≠ r8 := Nat.ne_of_lt (Nat.lt_trans q12 (Nat.lt_trans q13 (Nat.lt_trans q14 (Nat.lt_trans q15 (Nat.lt_trans q16 (Nat.lt_trans q17 q18))))))
    have n375 : r2 ≠ r8 := Nat.ne_of_lt (Nat.lt_trans q13 (Nat.lt_trans q14 (Nat.lt_trans q15 (Nat.lt_trans q16 (Nat.lt_trans q17 q18)))))
    have n376 : r3 ≠ r8 := Nat.ne_of_lt (Nat.lt_trans q14 (Nat.lt_trans q15 (Nat.lt_trans q16 (Nat.lt_trans q17 q18))))
    have n377 : r4 ≠ r8 := Nat.ne_of_lt (Nat.lt_trans q15 (Nat.lt_trans q16 (Nat.lt_trans q17 q18)))
    have n378 : r5 ≠ r8 := Nat.ne_of_lt (Nat.lt_trans q16 (Nat.lt_trans q17 q18))
    have n379 : r6 ≠ r8 := Nat.ne_of_lt (Nat.lt_trans q17 q18)
    have n380 : r7 ≠ r8 := Nat.ne_of_lt q18
    have Vr8_381 : own_Arr Z h335 r8 .double [x80, x81, x82] := (own_Arr.keep (own_Arr.keep (own_Arr.keep (own_Arr.keep (own_Arr.keep (own_Arr.keep (own_Arr.keep (own_Arr.keep (own_Arr.other Vr8 W202 (Ne.symm n372)) K209q (ninS (Ne.symm n373) nin0)) K221q (ninS (Ne.symm n374) nin0)) K235q (ninS (Ne.symm n375) nin0)) K251q (ninS (Ne.symm n376) nin0)) K269q (ninS (Ne.symm n377) nin0)) K289q (ninS (Ne.symm n378) nin0)) K311q (ninS (Ne.symm n379) nin0)) K335q (ninS (Ne.symm n380) nin0))
    refine own_cpA X359 hx hZ hown (own_w hw 55 rfl) (own_w hw 58 rfl) (own_w hw 56 rfl) (own_w hw 57 rfl) e359 Vo8_371 Vr8_381 rfl 0 0 2 (by decide) (by decide) (by decide) (by simp) (by simp) N335 g_r8 (by rw [hml]; rfl) (hb hby d5_174) (by decide) (W := 0) (Nat.le_of_eq rfl) (by decide) ?_
    intro T361 h361 L361 X361 e361 N361 K361q A361
    have sz361 : n0 ≤ h361.size := Nat.le_trans sz335 K361q.1
    have K361 : Keep h0 h361 [a1, r0, r1, r2, r3, r4, r5, r6, r7, r8] := K335.trans K361q (allS (Or.inl (by simp)) all0)
    have V361_0 : own_Arr Z h361 r8 .double [y80, y81, x82] := A361
    show own_Go p e below _ T361 (mkF m 177 #[.val (.ref a1), .val (.ref a2)] [])
    refine own_retV X361 hx hlk Bd.returns (hb hby d5_177) e361 (by decide) (by decide) ?_
    have E_a1_382 : Exa Z h361 a1 "com/example/wayfold/wayfold/engine/DayTiming$Timeline" := (Exa.keep (Exa.keep (Exa.keep (Exa.keep (Exa.keep (Exa.keep (Exa.keep (Exa.keep (Exa.keep (Exa.wr W202 E_a1) K209q) K221q) K235q) K251q) K269q) K289q) K311q) K335q) K361q)
    have F202_383 : Fld Z h361 a1 "com/example/wayfold/wayfold/engine/DayTiming$Timeline" "length" "I" (.int (1 : Int32)) := (Fld.keep F202_360 K361q (ninS n372 nin0))
    have Fr_nodes_384 : Fld Z h361 a1 "com/example/wayfold/wayfold/engine/DayTiming$Timeline" "nodes" "[I" (.ref r0) := (Fld.keep (Fld.keep (Fld.keep (Fld.keep (Fld.keep (Fld.keep (Fld.keep (Fld.keep (Fld.keep Fr_nodes_207 K209q (ninS n212 nin0)) K221q (ninS n225 nin0)) K235q (ninS n240 nin0)) K251q (ninS n257 nin0)) K269q (ninS n276 nin0)) K289q (ninS n297 nin0)) K311q (ninS n320 nin0)) K335q (ninS n345 nin0)) K361q (ninS n372 nin0))
    have Fr_leave_385 : Fld Z h361 a1 "com/example/wayfold/wayfold/engine/DayTiming$Timeline" "leave" "[D" (.ref r1) := (Fld.keep (Fld.keep (Fld.keep (Fld.keep (Fld.keep (Fld.keep (Fld.keep (Fld.keep Fr_leave_218 K221q (ninS n225 nin0)) K235q (ninS n240 nin0)) K251q (ninS n257 nin0)) K269q (ninS n276 nin0)) K289q (ninS n297 nin0)) K311q (ninS n320 nin0)) K335q (ninS n345 nin0)) K361q (ninS n372 nin0))
    have Fr_interest_386 : Fld Z h361 a1 "com/example/wayfold/wayfold/engine/DayTiming$Timeline" "interest" "[D" (.ref r2) := (Fld.keep (Fld.keep (Fld.keep (Fld.keep (Fld.keep (Fld.keep (Fld.keep Fr_interest_232 K235q (ninS n240 nin0)) K251q (ninS n257 nin0)) K269q (ninS n276 nin0)) K289q (ninS n297 nin0)) K311q (ninS n320 nin0)) K335q (ninS n345 nin0)) K361q (ninS n372 nin0))
    have Fr_travel_387 : Fld Z h361 a1 "com/example/wayfold/wayfold/engine/DayTiming$Timeline" "travel" "[D" (.ref r3) := (Fld.keep (Fld.keep (Fld.keep (Fld.keep (Fld.keep (Fld.keep Fr_travel_248 K251q (ninS n257 nin0)) K269q (ninS n276 nin0)) K289q (ninS n297 nin0)) K311q (ninS n320 nin0)) K335q (ninS n345 nin0)) K361q (ninS n372 nin0))
    have Fr_visit_388 : Fld Z h361 a1 "com/example/wayfold/wayfold/engine/DayTiming$Timeline" "visit" "[D" (.ref r4) := (Fld.keep (Fld.keep (Fld.keep (Fld.keep (Fld.keep Fr_visit_266 K269q (ninS n276 nin0)) K289q (ninS n297 nin0)) K311q (ninS n320 nin0)) K335q (ninS n345 nin0)) K361q (ninS n372 nin0))
    have Fr_waiting_389 : Fld Z h361 a1 "com/example/wayfold/wayfold/engine/DayTiming$Timeline" "waiting" "[D" (.ref r5) := (Fld.keep (Fld.keep (Fld.keep (Fld.keep Fr_waiting_286 K289q (ninS n297 nin0)) K311q (ninS n320 nin0)) K335q (ninS n345 nin0)) K361q (ninS n372 nin0))
    have Fr_load_390 : Fld Z h361 a1 "com/example/wayfold/wayfold/engine/DayTiming$Timeline" "load" "[D" (.ref r6) := (Fld.keep (Fld.keep (Fld.keep Fr_load_308 K311q (ninS n320 nin0)) K335q (ninS n345 nin0)) K361q (ninS n372 nin0))
    have Fr_latest_391 : Fld Z h361 a1 "com/example/wayfold/wayfold/engine/DayTiming$Timeline" "latest" "[D" (.ref r7) := (Fld.keep (Fld.keep Fr_latest_332 K335q (ninS n345 nin0)) K361q (ninS n372 nin0))
    have Fr_best_392 : Fld Z h361 a1 "com/example/wayfold/wayfold/engine/DayTiming$Timeline" "best" "[D" (.ref r8) := (Fld.keep Fr_best_358 K361q (ninS n372 nin0))
    have V209_393 : own_Arr Z h361 r0 .int [y00, x01] := (own_Arr.keep (own_Arr.keep (own_Arr.keep (own_Arr.keep (own_Arr.keep (own_Arr.keep (own_Arr.keep (own_Arr.keep V209_0 K221q (ninS n226 nin0)) K235q (ninS n241 nin0)) K251q (ninS n258 nin0)) K269q (ninS n277 nin0)) K289q (ninS n298 nin0)) K311q (ninS n321 nin0)) K335q (ninS n346 nin0)) K361q (ninS n373 nin0))
    have V221_394 : own_Arr Z h361 r1 .double [y10, y11, x12] := (own_Arr.keep (own_Arr.keep (own_Arr.keep (own_Arr.keep (own_Arr.keep (own_Arr.keep (own_Arr.keep V221_0 K235q (ninS n242 nin0)) K251q (ninS n259 nin0)) K269q (ninS n278 nin0)) K289q (ninS n299 nin0)) K311q (ninS n322 nin0)) K335q (ninS n347 nin0)) K361q (ninS n374 nin0))
    have V235_395 : own_Arr Z h361 r2 .double [y20, y21, x22] := (own_Arr.keep (own_Arr.keep (own_Arr.keep (own_Arr.keep (own_Arr.keep (own_Arr.keep V235_0 K251q (ninS n260 nin0)) K269q (ninS n279 nin0)) K289q (ninS n300 nin0)) K311q (ninS n323 nin0)) K335q (ninS n348 nin0)) K361q (ninS n375 nin0))
    have V251_396 : own_Arr Z h361 r3 .double [y30, y31, x32] := (own_Arr.keep (own_Arr.keep (own_Arr.keep (own_Arr.keep (own_Arr.keep V251_0 K269q (ninS n280 nin0)) K289q (ninS n301 nin0)) K311q (ninS n324 nin0)) K335q (ninS n349 nin0)) K361q (ninS n376 nin0))
    have V269_397 : own_Arr Z h361 r4 .double [y40, y41, x42] := (own_Arr.keep (own_Arr.keep (own_Arr.keep (own_Arr.keep V269_0 K289q (ninS n302 nin0)) K311q (ninS n325 nin0)) K335q (ninS n350 nin0)) K361q (ninS n377 nin0))
    have V289_398 : own_Arr Z h361 r5 .double [y50, y51, x52] := (own_Arr.keep (own_Arr.keep (own_Arr.keep V289_0 K311q (ninS n326 nin0)) K335q (ninS n351 nin0)) K361q (ninS n378 nin0))
    have V311_399 : own_Arr Z h361 r6 .double [y60, y61, x62] := (own_Arr.keep (own_Arr.keep V311_0 K335q (ninS n352 nin0)) K361q (ninS n379 nin0))
    have V335_400 : own_Arr Z h361 r7 .double [y70, y71, x72] := (own_Arr.keep V335_0 K361q (ninS n380 nin0))
    exact ⟨rfl, N361, K361, E_a1_382, F202_383, ⟨Fr_nodes_384, Fr_leave_385, Fr_interest_386, Fr_travel_387, Fr_visit_388, Fr_waiting_389, Fr_load_390, Fr_latest_391, Fr_best_392⟩, V209_393, V221_394, V235_395, V251_396, V269_397, V289_398, V311_399, V335_400, V361_0⟩
  · show own_Go p e below _ s₁ (mkF m 0 #[.val (.ref a1), .val (.ref a2)] [])
    refine own_by (fun t_ k_ => XS.aloadN X0.here hx rfl (hb hby d5_0) rfl rfl k_) ?_
    show own_Go p e below _ s₁ (mkF m 1 #[.val (.ref a1), .val (.ref a2)] [(.ref a1)])
    refine own_by (fun t_ k_ => XS.aloadN X0.here hx rfl (hb hby d5_1) rfl rfl k_) ?_
    show own_Go p e below _ s₁ (mkF m 2 #[.val (.ref a1), .val (.ref a2)] [(.ref a2), (.ref a1)])
    refine own_getF X0 hx hZ hown (own_w hw 54 rfl) Via.refl e0 F_length2 (hb hby d5_2) ?_
    intro T401 X401 e401
    show own_Go p e below _ T401 (mkF m 5 #[.val (.ref a1), .val (.ref a2)] [(.int (2 : Int32)), (.ref a1)])
    refine own_putF X401 hx hZ hown (own_w hw 54 rfl) Via.refl e401 F_length1 E_a1 (Or.inl (own_w hw 32 rfl)) (own_w hw 3 rfl) (ty := .int) (by decide) rfl rfl (hb hby d5_5) ?_
    intro T402 h402 X402 e402 W402
    have F402 := Fld.same W402 F_length1
    have N402 := Fr.snoc X402 N0 g_a1
    have sz402 : n0 ≤ h402.size := Nat.le_trans Z0 (Keep.of_wr W402).1
    have K402 : Keep h0 h402 [a1, r0, r1, r2, r3, r4, r5, r6, r7, r8] := K0.wr W402 (Or.inl (by simp))
    show own_Go p e below _ T402 (mkF m 8 #[.val (.ref a1), .val (.ref a2)] [])
    refine own_by (fun t_ k_ => XS.aloadN X402.here hx rfl (hb hby d5_8) rfl rfl k_) ?_
    show own_Go p e below _ T402 (mkF m 9 #[.val (.ref a1), .val (.ref a2)] [(.ref a2)])
    have n404 : a2 ≠ a1 := Nat.ne_of_lt (Nat.lt_trans q0 (Nat.lt_trans q1 (Nat.lt_trans q2 (Nat.lt_trans q3 (Nat.lt_trans q4 (Nat.lt_trans q5 (Nat.lt_trans q6 (Nat.lt_trans q7 (Nat.lt_trans q8 q9)))))))))
    have Fo_nodes_405 : Fld Z h402 a2 "com/example/wayfold/wayfold/engine/DayTiming$Timeline" "nodes" "[I" (.ref o0) := (Fld.other W402 Fo_nodes (Or.inl n404))
    refine own_getF X402 hx hZ hown (own_w hw 12 rfl) Via.refl e402 Fo_nodes_405 (hb hby d5_9) ?_
    intro T403 X403 e403
    show own_Go p e below _ T403 (mkF m 12 #[.val (.ref a1), .val (.ref a2)] [(.ref o0)])
    refine own_by (fun t_ k_ => XS.iconst X403.here hx rfl (hb hby d5_12) k_) ?_
    show own_Go p e below _ T403 (mkF m 13 #[.val (.ref a1), .val (.ref a2)] [(.int (0 : Int32)), (.ref o0)])
    refine own_by (fun t_ k_ => XS.aloadN X403.here hx rfl (hb hby d5_13) rfl rfl k_) ?_
    show own_Go p e below _ T403 (mkF m 14 #[.val (.ref a1), .val (.ref a2)] [(.ref a1), (.int (0 : Int32)), (.ref o0)])
    have Fr_nodes_407 : Fld Z h402 a1 "com/example/wayfold/wayfold/engine/DayTiming$Timeline" "nodes" "[I" (.ref r0) := (Fld.other W402 Fr_nodes (Or.inr (slot_ne (Or.inr (own_w hw 13 rfl)) (Or.inl (own_w hw 32 rfl)) (by decide) (t := (.array .int)) (t' := .int) (by decide) (by decide))))
    refine own_getF X403 hx hZ hown (own_w hw 12 rfl) Via.refl e403 Fr_nodes_407 (hb hby d5_14) ?_
    intro T406 X406 e406
    show own_Go p e below _ T406 (mkF m 17 #[.val (.ref a1), .val (.ref a2)] [(.ref r0), (.int (0 : Int32)), (.ref o0)])
    refine own_by (fun t_ k_ => XS.iconst X406.here hx rfl (hb hby d5_17) k_) ?_
    show own_Go p e below _ T406 (mkF m 18 #[.val (.ref a1), .val (.ref a2)] [(.int (0 : Int32)), (.ref r0), (.int (0 : Int32)), (.ref o0)])
    refine own_by (fun t_ k_ => XS.aloadN X406.here hx rfl (hb hby d5_18) rfl rfl k_) ?_
    show own_Go p e below _ T406 (mkF m 19 #[.val (.ref a1), .val (.ref a2)] [(.ref a1), (.int (0 : Int32)), (.ref r0), (.int (0 : Int32)), (.ref o0)])
    refine own_getF X406 hx hZ hown (own_w hw 54 rfl) Via.refl e406 F402 (hb hby d5_19) ?_
    intro T408 X408 e408
    show own_Go p e below _ T408 (mkF m 22 #[.val (.ref a1), .val (.ref a2)] [(.int (2 : Int32)), (.int (0 : Int32)), (.ref r0), (.int (0 : Int32)), (.ref o0)])
    have n410 : o0 ≠ a1 := Nat.ne_of_lt (Nat.lt_trans q1 (Nat.lt_trans q2 (Nat.lt_trans q3 (Nat.lt_trans q4 (Nat.lt_trans q5 (Nat.lt_trans q6 (Nat.lt_trans q7 (Nat.lt_trans q8 q9))))))))
    have Vo0_411 : own_Arr Z h402 o0 .int [y00, y01] := (own_Arr.other Vo0 W402 n410)
    have n412 : a1 ≠ r0 := Nat.ne_of_lt q10
    have Vr0_413 : own_Arr Z h402 r0 .int [x00, x01] := (own_Arr.other Vr0 W402 (Ne.symm n412))
    refine own_cpA X408 hx hZ hown (own_w hw 55 rfl) (own_w hw 58 rfl) (own_w hw 56 rfl) (own_w hw 57 rfl) e408 Vo0_411 Vr0_413 rfl 0 0 2 (by decide) (by decide) (by decide) (by simp) (by simp) N402 g_r0 (by rw [hml]; rfl) (hb hby d5_22) (by decide) (W := 0) (Nat.le_of_eq rfl) (by decide) ?_
    intro T409 h409 L409 X409 e409 N409 K409q A409
    have sz409 : n0 ≤ h409.size := Nat.le_trans sz402 K409q.1
    have K409 : Keep h0 h409 [a1, r0, r1, r2, r3, r4, r5, r6, r7, r8] := K402.trans K409q (allS (Or.inl (by simp)) all0)
    have V409_0 : own_Arr Z h409 r0 .int [y00, y01] := A409
    show own_Go p e below _ T409 (mkF m 25 #[.val (.ref a1), .val (.ref a2)] [])
    refine own_by (fun t_ k_ => XS.aloadN X409.here hx rfl (hb hby d5_25) rfl rfl k_) ?_
    show own_Go p e below _ T409 (mkF m 26 #[.val (.ref a1), .val (.ref a2)] [(.ref a2)])
    have n415 : a2 ≠ r0 := Nat.ne_of_lt (Nat.lt_trans q0 (Nat.lt_trans q1 (Nat.lt_trans q2 (Nat.lt_trans q3 (Nat.lt_trans q4 (Nat.lt_trans q5 (Nat.lt_trans q6 (Nat.lt_trans q7 (Nat.lt_trans q8 (Nat.lt_trans q9 q10))))))))))
    have Fo_leave_416 : Fld Z h409 a2 "com/example/wayfold/wayfold/engine/DayTiming$Timeline" "leave" "[D" (.ref o1) := (Fld.keep (Fld.other W402 Fo_leave (Or.inl n404)) K409q (ninS n415 nin0))
    refine own_getF X409 hx hZ hown (own_w hw 15 rfl) Via.refl e409 Fo_leave_416 (hb hby d5_26) ?_
    intro T414 X414 e414
    show own_Go p e below _ T414 (mkF m 29 #[.val (.ref a1), .val (.ref a2)] [(.ref o1)])
    refine own_by (fun t_ k_ => XS.iconst X414.here hx rfl (hb hby d5_29) k_) ?_
    show own_Go p e below _ T414 (mkF m 30 #[.val (.ref a1), .val (.ref a2)] [(.int (0 : Int32)), (.ref o1)])
    refine own_by (fun t_ k_ => XS.aloadN X414.here hx rfl (hb hby d5_30) rfl rfl k_) ?_
    show own_Go p e below _ T414 (mkF m 31 #[.val (.ref a1), .val (.ref a2)] [(.ref a1), (.int (0 : Int32)), (.ref o1)])
    have Fr_leave_418 : Fld Z h409 a1 "com/example/wayfold/wayfold/engine/DayTiming$Timeline" "leave" "[D" (.ref r1) := (Fld.keep (Fld.other W402 Fr_leave (Or.inr (slot_ne (Or.inr (own_w hw 16 rfl)) (Or.inl (own_w hw 32 rfl)) (by decide) (t := (.array .double)) (t' := .int) (by decide) (by decide)))) K409q (ninS n412 nin0))
    refine own_getF X414 hx hZ hown (own_w hw 15 rfl) Via.refl e414 Fr_leave_418 (hb hby d5_31) ?_
    intro T417 X417 e417
    show own_Go p e below _ T417 (mkF m 34 #[.val (.ref a1), .val (.ref a2)] [(.ref r1), (.int (0 : Int32)), (.ref o1)])
    refine own_by (fun t_ k_ => XS.iconst X417.here hx rfl (hb hby d5_34) k_) ?_
    show own_Go p e below _ T417 (mkF m 35 #[.val (.ref a1), .val (.ref a2)] [(.int (0 : Int32)), (.ref r1), (.int (0 : Int32)), (.ref o1)])
    refine own_by (fun t_ k_ => XS.aloadN X417.here hx rfl (hb hby d5_35) rfl rfl k_) ?_
    show own_Go p e below _ T417 (mkF m 36 #[.val (.ref a1), .val (.ref a2)] [(.ref a1), (.int (0 : Int32)), (.ref r1), (.int (0 : Int32)), (.ref o1)])
    have F402_420 : Fld Z h409 a1 "com/example/wayfold/wayfold/engine/DayTiming$Timeline" "length" "I" (.int (2 : Int32)) := (Fld.keep F402 K409q (ninS n412 nin0))
    refine own_getF X417 hx hZ hown (own_w hw 54 rfl) Via.refl e417 F402_420 (hb hby d5_36) ?_
    intro T419 X419 e419
    show own_Go p e below _ T419 (mkF m 39 #[.val (.ref a1), .val (.ref a2)] [(.int (2 : Int32)), (.int (0 : Int32)), (.ref r1), (.int (0 : Int32)), (.ref o1)])
    refine own_by (fun t_ k_ => XS.iconst X419.here hx rfl (hb hby d5_39) k_) ?_
    show own_Go p e below _ T419 (mkF m 40 #[.val (.ref a1), .val (.ref a2)] [(.int (1 : Int32)), (.int (2 : Int32)), (.int (0 : Int32)), (.ref r1), (.int (0 : Int32)), (.ref o1)])
    refine own_by (fun t_ k_ => XS.iadd X419.here hx rfl (hb hby d5_40) rfl k_) ?_
    show own_Go p e below _ T419 (mkF m 41 #[.val (.ref a1), .val (.ref a2)] [(.int (3 : Int32)), (.int (0 : Int32)), (.ref r1), (.int (0 : Int32)), (.ref o1)])
    have n422 : o1 ≠ a1 := Nat.ne_of_lt (Nat.lt_trans q2 (Nat.lt_trans q3 (Nat.lt_trans q4 (Nat.lt_trans q5 (Nat.lt_trans q6 (Nat.lt_trans q7 (Nat.lt_trans q8 q9)))))))
    have n423 : o1 ≠ r0 := Nat.ne_of_lt (Nat.lt_trans q2 (Nat.lt_trans q3 (Nat.lt_trans q4 (Nat.lt_trans q5 (Nat.lt_trans q6 (Nat.lt_trans q7 (Nat.lt_trans q8 (Nat.lt_trans q9 q10))))))))
    have Vo1_424 : own_Arr Z h409 o1 .double [y10, y11, y12] := (own_Arr.keep (own_Arr.other Vo1 W402 n422) K409q (ninS n423 nin0))
    have n425 : a1 ≠ r1 := Nat.ne_of_lt (Nat.lt_trans q10 q11)
    have n426 : r0 ≠ r1 := Nat.ne_of_lt q11
    have Vr1_427 : own_Arr Z h409 r1 .double [x10, x11, x12] := (own_Arr.keep (own_Arr.other Vr1 W402 (Ne.symm n425)) K409q (ninS (Ne.symm n426) nin0))
    refine own_cpA X419 hx hZ hown (own_w hw 55 rfl) (own_w hw 58 rfl) (own_w hw 56 rfl) (own_w hw 57 rfl) e419 Vo1_424 Vr1_427 rfl 0 0 3 (by decide) (by decide) (by decide) (by simp) (by simp) N409 g_r1 (by rw [hml]; rfl) (hb hby d5_41) (by decide) (W := 0) (Nat.le_of_eq rfl) (by decide) ?_
    intro T421 h421 L421 X421 e421 N421 K421q A421
    have sz421 : n0 ≤ h421.size := Nat.le_trans sz409 K421q.1
    have K421 : Keep h0 h421 [a1, r0, r1, r2, r3, r4, r5, r6, r7, r8] := K409.trans K421q (allS (Or.inl (by simp)) all0)
    have V421_0 : own_Arr Z h421 r1 .double [y10, y11, y12] := A421
    show own_Go p e below _ T421 (mkF m 44 #[.val (.ref a1), .val (.ref a2)] [])
    refine own_by (fun t_ k_ => XS.aloadN X421.here hx rfl (hb hby d5_44) rfl rfl k_) ?_
    show own_Go p e below _ T421 (mkF m 45 #[.val (.ref a1), .val (.ref a2)] [(.ref a2)])
    have n429 : a2 ≠ r1 := Nat.ne_of_lt (Nat.lt_trans q0 (Nat.lt_trans q1 (Nat.lt_trans q2 (Nat.lt_trans q3 (Nat.lt_trans q4 (Nat.lt_trans q5 (Nat.lt_trans q6 (Nat.lt_trans q7 (Nat.lt_trans q8 (Nat.lt_trans q9 (Nat.lt_trans q10 q11)))))))))))
    have Fo_interest_430 : Fld Z h421 a2 "com/example/wayfold/wayfold/engine/DayTiming$Timeline" "interest" "[D" (.ref o2) := (Fld.keep (Fld.keep (Fld.other W402 Fo_interest (Or.inl n404)) K409q (ninS n415 nin0)) K421q (ninS n429 nin0))
    refine own_getF X421 hx hZ hown (own_w hw 17 rfl) Via.refl e421 Fo_interest_430 (hb hby d5_45) ?_
    intro T428 X428 e428
    show own_Go p e below _ T428 (mkF m 48 #[.val (.ref a1), .val (.ref a2)] [(.ref o2)])
    refine own_by (fun t_ k_ => XS.iconst X428.here hx rfl (hb hby d5_48) k_) ?_
    show own_Go p e below _ T428 (mkF m 49 #[.val (.ref a1), .val (.ref a2)] [(.int (0 : Int32)), (.ref o2)])
    refine own_by (fun t_ k_ => XS.aloadN X428.here hx rfl (hb hby d5_49) rfl rfl k_) ?_
    show own_Go p e below _ T428 (mkF m 50 #[.val (.ref a1), .val (.ref a2)] [(.ref a1), (.int (0 : Int32)), (.ref o2)])
    have Fr_interest_432 : Fld Z h421 a1 "com/example/wayfold/wayfold/engine/DayTiming$Timeline" "interest" "[D" (.ref r2) := (Fld.keep (Fld.keep (Fld.other W402 Fr_interest (Or.inr (slot_ne (Or.inr (own_w hw 18 rfl)) (Or.inl (own_w hw 32 rfl)) (by decide) (t := (.array .double)) (t' := .int) (by decide) (by decide)))) K409q (ninS n412 nin0)) K421q (ninS n425 nin0))
    refine own_getF X428 hx hZ hown (own_w hw 17 rfl) Via.refl e428 Fr_interest_432 (hb hby d5_50) ?_
    intro T431 X431 e431
    show own_Go p e below _ T431 (mkF m 53 #[.val (.ref a1), .val (.ref a2)] [(.ref r2), (.int (0 : Int32)), (.ref o2)])
    refine own_by (fun t_ k_ => XS.iconst X431.here hx rfl (hb hby d5_53) k_) ?_
    show own_Go p e below _ T431 (mkF m 54 #[.val (.ref a1), .val (.ref a2)] [(.int (0 : Int32)), (.ref r2), (.int (0 : Int32)), (.ref o2)])
    refine own_by (fun t_ k_ => XS.aloadN X431.here hx rfl (hb hby d5_54) rfl rfl k_) ?_
    show own_Go p e below _ T431 (mkF m 55 #[.val (.ref a1), .val (.ref a2)] [(.ref a1), (.int (0 : Int32)), (.ref r2), (.int (0 : Int32)), (.ref o2)])
    have F402_434 : Fld Z h421 a1 "com/example/wayfold/wayfold/engine/DayTiming$Timeline" "length" "I" (.int (2 : Int32)) := (Fld.keep F402_420 K421q (ninS n425 nin0))
    refine own_getF X431 hx hZ hown (own_w hw 54 rfl) Via.refl e431 F402_434 (hb hby d5_55) ?_
    intro T433 X433 e433
    show own_Go p e below _ T433 (mkF m 58 #[.val (.ref a1), .val (.ref a2)] [(.int (2 : Int32)), (.int (0 : Int32)), (.ref r2), (.int (0 : Int32)), (.ref o2)])
    refine own_by (fun t_ k_ => XS.iconst X433.here hx rfl (hb hby d5_58) k_) ?_
    show own_Go p e below _ T433 (mkF m 59 #[.val (.ref a1), .val (.ref a2)] [(.int (1 : Int32)), (.int (2 : Int32)), (.int (0 : Int32)), (.ref r2), (.int (0 : Int32)), (.ref o2)])
    refine own_by (fun t_ k_ => XS.iadd X433.here hx rfl (hb hby d5_59) rfl k_) ?_
    show own_Go p e below _ T433 (mkF m 60 #[.val (.ref a1), .val (.ref a2)] [(.int (3 : Int32)), (.int (0 : Int32)), (.ref r2), (.int (0 : Int32)), (.ref o2)])
    have n436 : o2 ≠ a1 := Nat.ne_of_lt (Nat.lt_trans q3 (Nat.lt_trans q4 (Nat.lt_trans q5 (Nat.lt_trans q6 (Nat.lt_trans q7 (Nat.lt_trans q8 q9))))))
    have n437 : o2 ≠ r0 := Nat.ne_of_lt (Nat.lt_trans q3 (Nat.lt_trans q4 (Nat.lt_trans q5 (Nat.lt_trans q6 (Nat.lt_trans q7 (Nat.lt_trans q8 (Nat.lt_trans q9 q10)))))))
    have n438 : o2 ≠ r1 := Nat.ne_of_lt (Nat.lt_trans q3 (Nat.lt_trans q4 (Nat.lt_trans q5 (Nat.lt_trans q6 (Nat.lt_trans q7 (Nat.lt_trans q8 (Nat.lt_trans q9 (Nat.lt_trans q10 q11))))))))
    have Vo2_439 : own_Arr Z h421 o2 .double [y20, y21, y22] := (own_Arr.keep (own_Arr.keep (own_Arr.other Vo2 W402 n436) K409q (ninS n437 nin0)) K421q (ninS n438 nin0))
    have n440 : a1 ≠ r2 := Nat.ne_of_lt (Nat.lt_trans q10 (Nat.lt_trans q11 q12))
    have n441 : r0 ≠ r2 := Nat.ne_of_lt (Nat.lt_trans q11 q12)
    have n442 : r1 ≠ r2 := Nat.ne_of_lt q12
    have Vr2_443 : own_Arr Z h421 r2 .double [x20, x21, x22] := (own_Arr.keep (own_Arr.keep (own_Arr.other Vr2 W402 (Ne.symm n440)) K409q (ninS (Ne.symm n441) nin0)) K421q (ninS (Ne.symm n442) nin0))
    refine own_cpA X433 hx hZ hown (own_w hw 55 rfl) (own_w hw 58 rfl) (own_w hw 56 rfl) (own_w hw 57 rfl) e433 Vo2_439 Vr2_443 rfl 0 0 3 (by decide) (by decide) (by decide) (by simp) (by simp) N421 g_r2 (by rw [hml]; rfl) (hb hby d5_60) (by decide) (W := 0) (Nat.le_of_eq rfl) (by decide) ?_
    intro T435 h435 L435 X435 e435 N435 K435q A435
    have sz435 : n0 ≤ h435.size := Nat.le_trans sz421 K435q.1
    have K435 : Keep h0 h435 [a1, r0, r1, r2, r3, r4, r5, r6, r7, r8] := K421.trans K435q (allS (Or.inl (by simp)) all0)
    have V435_0 : own_Arr Z h435 r2 .double [y20, y21, y22] := A435
    show own_Go p e below _ T435 (mkF m 63 #[.val (.ref a1), .val (.ref a2)] [])
    refine own_by (fun t_ k_ => XS.aloadN X435.here hx rfl (hb hby d5_63) rfl rfl k_) ?_
    show own_Go p e below _ T435 (mkF m 64 #[.val (.ref a1), .val (.ref a2)] [(.ref a2)])
    have n445 : a2 ≠ r2 := Nat.ne_of_lt (Nat.lt_trans q0 (Nat.lt_trans q1 (Nat.lt_trans q2 (Nat.lt_trans q3 (Nat.lt_trans q4 (Nat.lt_trans q5 (Nat.lt_trans q6 (Nat.lt_trans q7 (Nat.lt_trans q8 (Nat.lt_trans q9 (Nat.lt_trans q10 (Nat.lt_trans q11 q12))))))))))))
    have Fo_travel_446 : Fld Z h435 a2 "com/example/wayfold/wayfold/engine/DayTiming$Timeline" "travel" "[D" (.ref o3) := (Fld.keep (Fld.keep (Fld.keep (Fld.other W402 Fo_travel (Or.inl n404)) K409q (ninS n415 nin0)) K421q (ninS n429 nin0)) K435q (ninS n445 nin0))
    refine own_getF X435 hx hZ hown (own_w hw 19 rfl) Via.refl e435 Fo_travel_446 (hb hby d5_64) ?_
    intro T444 X444 e444
    show own_Go p e below _ T444 (mkF m 67 #[.val (.ref a1), .val (.ref a2)] [(.ref o3)])
    refine own_by (fun t_ k_ => XS.iconst X444.here hx rfl (hb hby d5_67) k_) ?_
    show own_Go p e below _ T444 (mkF m 68 #[.val (.ref a1), .val (.ref a2)] [(.int (0 : Int32)), (.ref o3)])
    refine own_by (fun t_ k_ => XS.aloadN X444.here hx rfl (hb hby d5_68) rfl rfl k_) ?_
    show own_Go p e below _ T444 (mkF m 69 #[.val (.ref a1), .val (.ref a2)] [(.ref a1), (.int (0 : Int32)), (.ref o3)])
    have Fr_travel_448 : Fld Z h435 a1 "com/example/wayfold/wayfold/engine/DayTiming$Timeline" "travel" "[D" (.ref r3) := (Fld.keep (Fld.keep (Fld.keep (Fld.other W402 Fr_travel (Or.inr (slot_ne (Or.inr (own_w hw 20 rfl)) (Or.inl (own_w hw 32 rfl)) (by decide) (t := (.array .double)) (t' := .int) (by decide) (by decide)))) K409q (ninS n412 nin0)) K421q (ninS n425 nin0)) K435q (ninS n440 nin0))
    refine own_getF X444 hx hZ hown (own_w hw 19 rfl) Via.refl e444 Fr_travel_448 (hb hby d5_69) ?_
    intro T447 X447 e447
    show own_Go p e below _ T447 (mkF m 72 #[.val (.ref a1), .val (.ref a2)] [(.ref r3), (.int (0 : Int32)), (.ref o3)])
    refine own_by (fun t_ k_ => XS.iconst X447.here hx rfl (hb hby d5_72) k_) ?_
    show own_Go p e below _ T447 (mkF m 73 #[.val (.ref a1), .val (.ref a2)] [(.int (0 : Int32)), (.ref r3), (.int (0 : Int32)), (.ref o3)])
    refine own_by (fun t_ k_ => XS.aloadN X447.here hx rfl (hb hby d5_73) rfl rfl k_) ?_
    show own_Go p e below _ T447 (mkF m 74 #[.val (.ref a1), .val (.ref a2)] [(.ref a1), (.int (0 : Int32)), (.ref r3), (.int (0 : Int32)), (.ref o3)])
    have F402_450 : Fld Z h435 a1 "com/example/wayfold/wayfold/engine/DayTiming$Timeline" "length" "I" (.int (2 : Int32)) := (Fld.keep F402_434 K435q (ninS n440 nin0))
    refine own_getF X447 hx hZ hown (own_w hw 54 rfl) Via.refl e447 F402_450 (hb hby d5_74) ?_
    intro T449 X449 e449
    show own_Go p e below _ T449 (mkF m 77 #[.val (.ref a1), .val (.ref a2)] [(.int (2 : Int32)), (.int (0 : Int32)), (.ref r3), (.int (0 : Int32)), (.ref o3)])
    refine own_by (fun t_ k_ => XS.iconst X449.here hx rfl (hb hby d5_77) k_) ?_
    show own_Go p e below _ T449 (mkF m 78 #[.val (.ref a1), .val (.ref a2)] [(.int (1 : Int32)), (.int (2 : Int32)), (.int (0 : Int32)), (.ref r3), (.int (0 : Int32)), (.ref o3)])
    refine own_by (fun t_ k_ => XS.iadd X449.here hx rfl (hb hby d5_78) rfl k_) ?_
    show own_Go p e below _ T449 (mkF m 79 #[.val (.ref a1), .val (.ref a2)] [(.int (3 : Int32)), (.int (0 : Int32)), (.ref r3), (.int (0 : Int32)), (.ref o3)])
    have n452 : o3 ≠ a1 := Nat.ne_of_lt (Nat.lt_trans q4 (Nat.lt_trans q5 (Nat.lt_trans q6 (Nat.lt_trans q7 (Nat.lt_trans q8 q9)))))
    have n453 : o3 ≠ r0 := Nat.ne_of_lt (Nat.lt_trans q4 (Nat.lt_trans q5 (Nat.lt_trans q6 (Nat.lt_trans q7 (Nat.lt_trans q8 (Nat.lt_trans q9 q10))))))
    have n454 : o3 ≠ r1 := Nat.ne_of_lt (Nat.lt_trans q4 (Nat.lt_trans q5 (Nat.lt_trans q6 (Nat.lt_trans q7 (Nat.lt_trans q8 (Nat.lt_trans q9 (Nat.lt_trans q10 q11)))))))
    have n455 : o3 ≠ r2 := Nat.ne_of_lt (Nat.lt_trans q4 (Nat.lt_trans q5 (Nat.lt_trans q6 (Nat.lt_trans q7 (Nat.lt_trans q8 (Nat.lt_trans q9 (Nat.lt_trans q10 (Nat.lt_trans q11 q12))))))))
    have Vo3_456 : own_Arr Z h435 o3 .double [y30, y31, y32] := (own_Arr.keep (own_Arr.keep (own_Arr.keep (own_Arr.other Vo3 W402 n452) K409q (ninS n453 nin0)) K421q (ninS n454 nin0)) K435q (ninS n455 nin0))
    have n457 : a1 ≠ r3 := Nat.ne_of_lt (Nat.lt_trans q10 (Nat.lt_trans q11 (Nat.lt_trans q12 q13)))
    have n458 : r0 ≠ r3 := Nat.ne_of_lt (Nat.lt_trans q11 (Nat.lt_trans q12 q13))
    have n459 : r1 ≠ r3 := Nat.ne_of_lt (Nat.lt_trans q12 q13)
    have n460 : r2 ≠ r3 := Nat.ne_of_lt q13
    have Vr3_461 : own_Arr Z h435 r3 .double [x30, x31, x32] := (own_Arr.keep (own_Arr.keep (own_Arr.keep (own_Arr.other Vr3 W402 (Ne.symm n457)) K409q (ninS (Ne.symm n458) nin0)) K421q (ninS (Ne.symm n459) nin0)) K435q (ninS (Ne.symm n460) nin0))
    refine own_cpA X449 hx hZ hown (own_w hw 55 rfl) (own_w hw 58 rfl) (own_w hw 56 rfl) (own_w hw 57 rfl) e449 Vo3_456 Vr3_461 rfl 0 0 3 (by decide) (by decide) (by decide) (by simp) (by simp) N435 g_r3 (by rw [hml]; rfl) (hb hby d5_79) (by decide) (W := 0) (Nat.le_of_eq rfl) (by decide) ?_
    intro T451 h451 L451 X451 e451 N451 K451q A451
    have sz451 : n0 ≤ h451.size := Nat.le_trans sz435 K451q.1
    have K451 : Keep h0 h451 [a1, r0, r1, r2, r3, r4, r5, r6, r7, r8] := K435.trans K451q (allS (Or.inl (by simp)) all0)
    have V451_0 : own_Arr Z h451 r3 .double [y30, y31, y32] := A451
    show own_Go p e below _ T451 (mkF m 82 #[.val (.ref a1), .val (.ref a2)] [])
    refine own_by (fun t_ k_ => XS.aloadN X451.here hx rfl (hb hby d5_82) rfl rfl k_) ?_
    show own_Go p e below _ T451 (mkF m 83 #[.val (.ref a1), .val (.ref a2)] [(.ref a2)])
    have n463 : a2 ≠ r3 := Nat.ne_of_lt (Nat.lt_trans q0 (Nat.lt_trans q1 (Nat.lt_trans q2 (Nat.lt_trans q3 (Nat.lt_trans q4 (Nat.lt_trans q5 (Nat.lt_trans q6 (Nat.lt_trans q7 (Nat.lt_trans q8 (Nat.lt_trans q9 (Nat.lt_trans q10 (Nat.lt_trans q11 (Nat.lt_trans q12 q13)))))))))))))
    have Fo_visit_464 : Fld Z h451 a2 "com/example/wayfold/wayfold/engine/DayTiming$Timeline" "visit" "[D" (.ref o4) := (Fld.keep (Fld.keep (Fld.keep (Fld.keep (Fld.other W402 Fo_visit (Or.inl n404)) K409q (ninS n415 nin0)) K421q (ninS n429 nin0)) K435q (ninS n445 nin0)) K451q (ninS n463 nin0))
    refine own_getF X451 hx hZ hown (own_w hw 21 rfl) Via.refl e451 Fo_visit_464 (hb hby d5_83) ?_
    intro T462 X462 e462
    show own_Go p e below _ T462 (mkF m 86 #[.val (.ref a1), .val (.ref a2)] [(.ref o4)])
    refine own_by (fun t_ k_ => XS.iconst X462.here hx rfl (hb hby d5_86) k_) ?_
    show own_Go p e below _ T462 (mkF m 87 #[.val (.ref a1), .val (.ref a2)] [(.int (0 : Int32)), (.ref o4)])
    refine own_by (fun t_ k_ => XS.aloadN X462.here hx rfl (hb hby d5_87) rfl rfl k_) ?_
    show own_Go p e below _ T462 (mkF m 88 #[.val (.ref a1), .val (.ref a2)] [(.ref a1), (.int (0 : Int32)), (.ref o4)])
    have Fr_visit_466 : Fld Z h451 a1 "com/example/wayfold/wayfold/engine/DayTiming$Timeline" "visit" "[D" (.ref r4) := (Fld.keep (Fld.keep (Fld.keep (Fld.keep (Fld.other W402 Fr_visit (Or.inr (slot_ne (Or.inr (own_w hw 22 rfl)) (Or.inl (own_w hw 32 rfl)) (by decide) (t := (.array .double)) (t' := .int) (by decide) (by decide)))) K409q (ninS n412 nin0)) K421q (ninS n425 nin0)) K435q (ninS n440 nin0)) K451q (ninS n457 nin0))
    refine own_getF X462 hx hZ hown (own_w hw 21 rfl) Via.refl e462 Fr_visit_466 (hb hby d5_88) ?_
    intro T465 X465 e465
    show own_Go p e below _ T465 (mkF m 91 #[.val (.ref a1), .val (.ref a2)] [(.ref r4), (.int (0 : Int32)), (.ref o4)])
    refine own_by (fun t_ k_ => XS.iconst X465.here hx rfl (hb hby d5_91) k_) ?_
    show own_Go p e below _ T465 (mkF m 92 #[.val (.ref a1), .val (.ref a2)] [(.int (0 : Int32)), (.ref r4), (.int (0 : Int32)), (.ref o4)])
    refine own_by (fun t_ k_ => XS.aloadN X465.here hx rfl (hb hby d5_92) rfl rfl k_) ?_
    show own_Go p e below _ T465 (mkF m 93 #[.val (.ref a1), .val (.ref a2)] [(.ref a1), (.int (0 : Int32)), (.ref r4), (.int (0 : Int32)), (.ref o4)])
    have F402_468 : Fld Z h451 a1 "com/example/wayfold/wayfold/engine/DayTiming$Timeline" "length" "I" (.int (2 : Int32)) := (Fld.keep F402_450 K451q (ninS n457 nin0))
    refine own_getF X465 hx hZ hown (own_w hw 54 rfl) Via.refl e465 F402_468 (hb hby d5_93) ?_
    intro T467 X467 e467
    show own_Go p e below _ T467 (mkF m 96 #[.val (.ref a1), .val (.ref a2)] [(.int (2 : Int32)), (.int (0 : Int32)), (.ref r4), (.int (0 : Int32)), (.ref o4)])
    refine own_by (fun t_ k_ => XS.iconst X467.here hx rfl (hb hby d5_96) k_) ?_
    show own_Go p e below _ T467 (mkF m 97 #[.val (.ref a1), .val (.ref a2)] [(.int (1 : Int32)), (.int (2 : Int32)), (.int (0 : Int32)), (.ref r4), (.int (0 : Int32)), (.ref o4)])
    refine own_by (fun t_ k_ => XS.iadd X467.here hx rfl (hb hby d5_97) rfl k_) ?_
    show own_Go p e below _ T467 (mkF m 98 #[.val (.ref a1), .val (.ref a2)] [(.int (3 : Int32)), (.int (0 : Int32)), (.ref r4), (.int (0 : Int32)), (.ref o4)])
    have n470 : o4 ≠ a1 := Nat.ne_of_lt (Nat.lt_trans q5 (Nat.lt_trans q6 (Nat.lt_trans q7 (Nat.lt_trans q8 q9))))
    have n471 : o4 ≠ r0 := Nat.ne_of_lt (Nat.lt_trans q5 (Nat.lt_trans q6 (Nat.lt_trans q7 (Nat.lt_trans q8 (Nat.lt_trans q9 q10)))))
    have n472 : o4 ≠ r1 := Nat.ne_of_lt (Nat.lt_trans q5 (Nat.lt_trans q6 (Nat.lt_trans q7 (Nat.lt_trans q8 (Nat.lt_trans q9 (Nat.lt_trans q10 q11))))))
    have n473 : o4 ≠ r2 := Nat.ne_of_lt (Nat.lt_trans q5 (Nat.lt_trans q6 (Nat.lt_trans q7 (Nat.lt_trans q8 (Nat.lt_trans q9 (Nat.lt_trans q10 (Nat.lt_trans q11 q12)))))))
    have n474 : o4 ≠ r3 := Nat.ne_of_lt (Nat.lt_trans q5 (Nat.lt_trans q6 (Nat.lt_trans q7 (Nat.lt_trans q8 (Nat.lt_trans q9 (Nat.lt_trans q10 (Nat.lt_trans q11 (Nat.lt_trans q12 q13))))))))
    have Vo4_475 : own_Arr Z h451 o4 .double [y40, y41, y42] := (own_Arr.keep (own_Arr.keep (own_Arr.keep (own_Arr.keep (own_Arr.other Vo4 W402 n470) K409q (ninS n471 nin0)) K421q (ninS n472 nin0)) K435q (ninS n473 nin0)) K451q (ninS n474 nin0))
    have n476 : a1 ≠ r4 := Nat.ne_of_lt (Nat.lt_trans q10 (Nat.lt_trans q11 (Nat.lt_trans q12 (Nat.lt_trans q13 q14))))
    have n477 : r0 ≠ r4 := Nat.ne_of_lt (Nat.lt_trans q11 (Nat.lt_trans q12 (Nat.lt_trans q13 q14)))
    have n478 : r1 ≠ r4 := Nat.ne_of_lt (Nat.lt_trans q12 (Nat.lt_trans q13 q14))
    have n479 : r2 ≠ r4 := Nat.ne_of_lt (Nat.lt_trans q13 q14)
    have n480 : r3 ≠ r4 := Nat.ne_of_lt q14
    have Vr4_481 : own_Arr Z h451 r4 .double [x40, x41, x42] := (own_Arr.keep (own_Arr.keep (own_Arr.keep (own_Arr.keep (own_Arr.other Vr4 W402 (Ne.symm n476)) K409q (ninS (Ne.symm n477) nin0)) K421q (ninS (Ne.symm n478) nin0)) K435q (ninS (Ne.symm n479) nin0)) K451q (ninS (Ne.symm n480) nin0))
    refine own_cpA X467 hx hZ hown (own_w hw 55 rfl) (own_w hw 58 rfl) (own_w hw 56 rfl) (own_w hw 57 rfl) e467 Vo4_475 Vr4_481 rfl 0 0 3 (by decide) (by decide) (by decide) (by simp) (by simp) N451 g_r4 (by rw [hml]; rfl) (hb hby d5_98) (by decide) (W := 0) (Nat.le_of_eq rfl) (by decide) ?_
    intro T469 h469 L469 X469 e469 N469 K469q A469
    have sz469 : n0 ≤ h469.size := Nat.le_trans sz451 K469q.1
    have K469 : Keep h0 h469 [a1, r0, r1, r2, r3, r4, r5, r6, r7, r8] := K451.trans K469q (allS (Or.inl (by simp)) all0)
    have V469_0 : own_Arr Z h469 r4 .double [y40, y41, y42] := A469
    show own_Go p e below _ T469 (mkF m 101 #[.val (.ref a1), .val (.ref a2)] [])
    refine own_by (fun t_ k_ => XS.aloadN X469.here hx rfl (hb hby d5_101) rfl rfl k_) ?_
    show own_Go p e below _ T469 (mkF m 102 #[.val (.ref a1), .val (.ref a2)] [(.ref a2)])
    have n483 : a2 ≠ r4 := Nat.ne_of_lt (Nat.lt_trans q0 (Nat.lt_trans q1 (Nat.lt_trans q2 (Nat.lt_trans q3 (Nat.lt_trans q4 (Nat.lt_trans q5 (Nat.lt_trans q6 (Nat.lt_trans q7 (Nat.lt_trans q8 (Nat.lt_trans q9 (Nat.lt_trans q10 (Nat.lt_trans q11 (Nat.lt_trans q12 (Nat.lt_trans q13 q14))))))))))))))
    have Fo_waiting_484 : Fld Z h469 a2 "com/example/wayfold/wayfold/engine/DayTiming$Timeline" "waiting" "[D" (.ref o5) := (Fld.keep (Fld.keep (Fld.keep (Fld.keep (Fld.keep (Fld.other W402 Fo_waiting (Or.inl n404)) K409q (ninS n415 nin0)) K421q (ninS n429 nin0)) K435q (ninS n445 nin0)) K451q (ninS n463 nin0)) K469q (ninS n483 nin0))
    refine own_getF X469 hx hZ hown (own_w hw 23 rfl) Via.refl e469 Fo_waiting_484 (hb hby d5_102) ?_
    intro T482 X482 e482
    show own_Go p e below _ T482 (mkF m 105 #[.val (.ref a1), .val (.ref a2)] [(.ref o5)])
    refine own_by (fun t_ k_ => XS.iconst X482.here hx rfl (hb hby d5_105) k_) ?_
    show own_Go p e below _ T482 (mkF m 106 #[.val (.ref a1), .val (.ref a2)] [(.int (0 : Int32)), (.ref o5)])
    refine own_by (fun t_ k_ => XS.aloadN X482.here hx rfl (hb hby d5_106) rfl rfl k_) ?_
    show own_Go p e below _ T482 (mkF m 107 #[.val (.ref a1), .val (.ref a2)] [(.ref a1), (.int (0 : Int32)), (.ref o5)])
    have Fr_waiting_486 : Fld Z h469 a1 "com/example/wayfold/wayfold/engine/DayTiming$Timeline" "waiting" "[D" (.ref r5) := (Fld.keep (Fld.keep (Fld.keep (Fld.keep (Fld.keep (Fld.other W402 Fr_waiting (Or.inr (slot_ne (Or.inr (own_w hw 24 rfl)) (Or.inl (own_w hw 32 rfl)) (by decide) (t := (.array .double)) (t' := .int) (by decide) (by decide)))) K409q (ninS n412 nin0)) K421q (ninS n425 nin0)) K435q (ninS n440 nin0)) K451q (ninS n457 nin0)) K469q (ninS n476 nin0))
    refine own_getF X482 hx hZ hown (own_w hw 23 rfl) Via.refl e482 Fr_waiting_486 (hb hby d5_107) ?_
    intro T485 X485 e485
    show own_Go p e below _ T485 (mkF m 110 #[.val (.ref a1), .val (.ref a2)] [(.ref r5), (.int (0 : Int32)), (.ref o5)])
    refine own_by (fun t_ k_ => XS.iconst X485.here hx rfl (hb hby d5_110) k_) ?_
    show own_Go p e below _ T485 (mkF m 111 #[.val (.ref a1), .val (.ref a2)] [(.int (0 : Int32)), (.ref r5), (.int (0 : Int32)), (.ref o5)])
    refine own_by (fun t_ k_ => XS.aloadN X485.here hx rfl (hb hby d5_111) rfl rfl k_) ?_
    show own_Go p e below _ T485 (mkF m 112 #[.val (.ref a1), .val (.ref a2)] [(.ref a1), (.int (0 : Int32)), (.ref r5), (.int (0 : Int32)), (.ref o5)])
    have F402_488 : Fld Z h469 a1 "com/example/wayfold/wayfold/engine/DayTiming$Timeline" "length" "I" (.int (2 : Int32)) := (Fld.keep F402_468 K469q (ninS n476 nin0))
    refine own_getF X485 hx hZ hown (own_w hw 54 rfl) Via.refl e485 F402_488 (hb hby d5_112) ?_
    intro T487 X487 e487
    show own_Go p e below _ T487 (mkF m 115 #[.val (.ref a1), .val (.ref a2)] [(.int (2 : Int32)), (.int (0 : Int32)), (.ref r5), (.int (0 : Int32)), (.ref o5)])
    refine own_by (fun t_ k_ => XS.iconst X487.here hx rfl (hb hby d5_115) k_) ?_
    show own_Go p e below _ T487 (mkF m 116 #[.val (.ref a1), .val (.ref a2)] [(.int (1 : Int32)), (.int (2 : Int32)), (.int (0 : Int32)), (.ref r5), (.int (0 : Int32)), (.ref o5)])
    refine own_by (fun t_ k_ => XS.iadd X487.here hx rfl (hb hby d5_116) rfl k_) ?_
    show own_Go p e below _ T487 (mkF m 117 #[.val (.ref a1), .val (.ref a2)] [(.int (3 : Int32)), (.int (0 : Int32)), (.ref r5), (.int (0 : Int32)), (.ref o5)])
    have n490 : o5 ≠ a1 := Nat.ne_of_lt (Nat.lt_trans q6 (Nat.lt_trans q7 (Nat.lt_trans q8 q9)))
    have n491 : o5 ≠ r0 := Nat.ne_of_lt (Nat.lt_trans q6 (Nat.lt_trans q7 (Nat.lt_trans q8 (Nat.lt_trans q9 q10))))
    have n492 : o5 ≠ r1 := Nat.ne_of_lt (Nat.lt_trans q6 (Nat.lt_trans q7 (Nat.lt_trans q8 (Nat.lt_trans q9 (Nat.lt_trans q10 q11)))))
    have n493 : o5 ≠ r2 := Nat.ne_of_lt (Nat.lt_trans q6 (Nat.lt_trans q7 (Nat.lt_trans q8 (Nat.lt_trans q9 (Nat.lt_trans q10 (Nat.lt_trans q11 q12))))))
    have n494 : o5 ≠ r3 := Nat.ne_of_lt (Nat.lt_trans q6 (Nat.lt_trans q7 (Nat.lt_trans q8 (Nat.lt_trans q9 (Nat.lt_trans q10 (Nat.lt_trans q11 (Nat.lt_trans q12 q13)))))))
    have n495 : o5 ≠ r4 := Nat.ne_of_lt (Nat.lt_trans q6 (Nat.lt_trans q7 (Nat.lt_trans q8 (Nat.lt_trans q9 (Nat.lt_trans q10 (Nat.lt_trans q11 (Nat.lt_trans q12 (Nat.lt_trans q13 q14))))))))
    have Vo5_496 : own_Arr Z h469 o5 .double [y50, y51, y52] := (own_Arr.keep (own_Arr.keep (own_Arr.keep (own_Arr.keep (own_Arr.keep (own_Arr.other Vo5 W402 n490) K409q (ninS n491 nin0)) K421q (ninS n492 nin0)) K435q (ninS n493 nin0)) K451q (ninS n494 nin0)) K469q (ninS n495 nin0))
    have n497 : a1 ≠ r5 := Nat.ne_of_lt (Nat.lt_trans q10 (Nat.lt_trans q11 (Nat.lt_trans q12 (Nat.lt_trans q13 (Nat.lt_trans q14 q15)))))
    have n498 : r0 ≠ r5 := Nat.ne_of_lt (Nat.lt_trans q11 (Nat.lt_trans q12 (Nat.lt_trans q13 (Nat.lt_trans q14 q15))))
    have n499 : r1 ≠ r5 := Nat.ne_of_lt (Nat.lt_trans q12 (Nat.lt_trans q13 (Nat.lt_trans q14 q15)))
    have n500 : r2 ≠ r5 := Nat.ne_of_lt (Nat.lt_trans q13 (Nat.lt_trans q14 q15))
    have n501 : r3 ≠ r5 := Nat.ne_of_lt (Nat.lt_trans q14 q15)
    have n502 : r4 ≠ r5 := Nat.ne_of_lt q15
    have Vr5_503 : own_Arr Z h469 r5 .double [x50, x51, x52] := (own_Arr.keep (own_Arr.keep (own_Arr.keep (own_Arr.keep (own_Arr.keep (own_Arr.other Vr5 W402 (Ne.symm n497)) K409q (ninS (Ne.symm n498) nin0)) K421q (ninS (Ne.symm n499) nin0)) K435q (ninS (Ne.symm n500) nin0)) K451q (ninS (Ne.symm n501) nin0)) K469q (ninS (Ne.symm n502) nin0))
    refine own_cpA X487 hx hZ hown (own_w hw 55 rfl) (own_w hw 58 rfl) (own_w hw 56 rfl) (own_w hw 57 rfl) e487 Vo5_496 Vr5_503 rfl 0 0 3 (by decide) (by decide) (by decide) (by simp) (by simp) N469 g_r5 (by rw [hml]; rfl) (hb hby d5_117) (by decide) (W := 0) (Nat.le_of_eq rfl) (by decide) ?_
    intro T489 h489 L489 X489 e489 N489 K489q A489
    have sz489 : n0 ≤ h489.size := Nat.le_trans sz469 K489q.1
    have K489 : Keep h0 h489 [a1, r0, r1, r2, r3, r4, r5, r6, r7, r8] := K469.trans K489q (allS (Or.inl (by simp)) all0)
    have V489_0 : own_Arr Z h489 r5 .double [y50, y51, y52] := A489
    show own_Go p e below _ T489 (mkF m 120 #[.val (.ref a1), .val (.ref a2)] [])
    refine own_by (fun t_ k_ => XS.aloadN X489.here hx rfl (hb hby d5_120) rfl rfl k_) ?_
    show own_Go p e below _ T489 (mkF m 121 #[.val (.ref a1), .val (.ref a2)] [(.ref a2)])
    have n505 : a2 ≠ r5 := Nat.ne_of_lt (Nat.lt_trans q0 (Nat.lt_trans q1 (Nat.lt_trans q2 (Nat.lt_trans q3 (Nat.lt_trans q4 (Nat.lt_trans q5 (Nat.lt_trans q6 (Nat.lt_trans q7 (Nat.lt_trans q8 (Nat.lt_trans q9 (Nat.lt_trans q10 (Nat.lt_trans q11 (Nat.lt_trans q12 (Nat.lt_trans q13 (Nat.lt_trans q14 q15)))))))))))))))
    have Fo_load_506 : Fld Z h489 a2 "com/example/wayfold/wayfold/engine/DayTiming$Timeline" "load" "[D" (.ref o6) := (Fld.keep (Fld.keep (Fld.keep (Fld.keep (Fld.keep (Fld.keep (Fld.other W402 Fo_load (Or.inl n404)) K409q (ninS n415 nin0)) K421q (ninS n429 nin0)) K435q (ninS n445 nin0)) K451q (ninS n463 nin0)) K469q (ninS n483 nin0)) K489q (ninS n505 nin0))
    refine own_getF X489 hx hZ hown (own_w hw 25 rfl) Via.refl e489 Fo_load_506 (hb hby d5_121) ?_
    intro T504 X504 e504
    show own_Go p e below _ T504 (mkF m 124 #[.val (.ref a1), .val (.ref a2)] [(.ref o6)])
    refine own_by (fun t_ k_ => XS.iconst X504.here hx rfl (hb hby d5_124) k_) ?_
    show own_Go p e below _ T504 (mkF m 125 #[.val (.ref a1), .val (.ref a2)] [(.int (0 : Int32)), (.ref o6)])
    refine own_by (fun t_ k_ => XS.aloadN X504.here hx rfl (hb hby d5_125) rfl rfl k_) ?_
    show own_Go p e below _ T504 (mkF m 126 #[.val (.ref a1), .val (.ref a2)] [(.ref a1), (.int (0 : Int32)), (.ref o6)])
    have Fr_load_508 : Fld Z h489 a1 "com/example/wayfold/wayfold/engine/DayTiming$Timeline" "load" "[D" (.ref r6) := (Fld.keep (Fld.keep (Fld.keep (Fld.keep (Fld.keep (Fld.keep (Fld.other W402 Fr_load (Or.inr (slot_ne (Or.inr (own_w hw 26 rfl)) (Or.inl (own_w hw 32 rfl)) (by decide) (t := (.array .double)) (t' := .int) (by decide) (by decide)))) K409q (ninS n412 nin0)) K421q (ninS n425 nin0)) K435q (ninS n440 nin0)) K451q (ninS n457 nin0)) K469q (ninS n476 nin0)) K489q (ninS n497 nin0))
    refine own_getF X504 hx hZ hown (own_w hw 25 rfl) Via.refl e504 Fr_load_508 (hb hby d5_126) ?_
    intro T507 X507 e507
    show own_Go p e below _ T507 (mkF m 129 #[.val (.ref a1), .val (.ref a2)] [(.ref r6), (.int (0 : Int32)), (.ref o6)])
    refine own_by (fun t_ k_ => XS.iconst X507.here hx rfl (hb hby d5_129) k_) ?_
    show own_Go p e below _ T507 (mkF m 130 #[.val (.ref a1), .val (.ref a2)] [(.int (0 : Int32)), (.ref r6), (.int (0 : Int32)), (.ref o6)])
    refine own_by (fun t_ k_ => XS.aloadN X507.here hx rfl (hb hby d5_130) rfl rfl k_) ?_
    show own_Go p e below _ T507 (mkF m 131 #[.val (.ref a1), .val (.ref a2)] [(.ref a1), (.int (0 : Int32)), (.ref r6), (.int (0 : Int32)), (.ref o6)])
    have F402_510 : Fld Z h489 a1 "com/example/wayfold/wayfold/engine/DayTiming$Timeline" "length" "I" (.int (2 : Int32)) := (Fld.keep F402_488 K489q (ninS n497 nin0))
    refine own_getF X507 hx hZ hown (own_w hw 54 rfl) Via.refl e507 F402_510 (hb hby d5_131) ?_
    intro T509 X509 e509
    show own_Go p e below _ T509 (mkF m 134 #[.val (.ref a1), .val (.ref a2)] [(.int (2 : Int32)), (.int (0 : Int32)), (.ref r6), (.int (0 : Int32)), (.ref o6)])
    refine own_by (fun t_ k_ => XS.iconst X509.here hx rfl (hb hby d5_134) k_) ?_
    show own_Go p e below _ T509 (mkF m 135 #[.val (.ref a1), .val (.ref a2)] [(.int (1 : Int32)), (.int (2 : Int32)), (.int (0 : Int32)), (.ref r6), (.int (0 : Int32)), (.ref o6)])
    refine own_by (fun t_ k_ => XS.iadd X509.here hx rfl (hb hby d5_135) rfl k_) ?_
    show own_Go p e below _ T509 (mkF m 136 #[.val (.ref a1), .val (.ref a2)] [(.int (3 : Int32)), (.int (0 : Int32)), (.ref r6), (.int (0 : Int32)), (.ref o6)])
    have n512 : o6 ≠ a1 := Nat.ne_of_lt (Nat.lt_trans q7 (Nat.lt_trans q8 q9))
    have n513 : o6 ≠ r0 := Nat.ne_of_lt (Nat.lt_trans q7 (Nat.lt_trans q8 (Nat.lt_trans q9 q10)))
    have n514 : o6 ≠ r1 := Nat.ne_of_lt (Nat.lt_trans q7 (Nat.lt_trans q8 (Nat.lt_trans q9 (Nat.lt_trans q10 q11))))
    have n515 : o6 ≠ r2 := Nat.ne_of_lt (Nat.lt_trans q7 (Nat.lt_trans q8 (Nat.lt_trans q9 (Nat.lt_trans q10 (Nat.lt_trans q11 q12)))))
    have n516 : o6 ≠ r3 := Nat.ne_of_lt (Nat.lt_trans q7 (Nat.lt_trans q8 (Nat.lt_trans q9 (Nat.lt_trans q10 (Nat.lt_trans q11 (Nat.lt_trans q12 q13))))))
    have n517 : o6 ≠ r4 := Nat.ne_of_lt (Nat.lt_trans q7 (Nat.lt_trans q8 (Nat.lt_trans q9 (Nat.lt_trans q10 (Nat.lt_trans q11 (Nat.lt_trans q12 (Nat.lt_trans q13 q14)))))))
    have n518 : o6 ≠ r5 := Nat.ne_of_lt (Nat.lt_trans q7 (Nat.lt_trans q8 (Nat.lt_trans q9 (Nat.lt_trans q10 (Nat.lt_trans q11 (Nat.lt_trans q12 (Nat.lt_trans q13 (Nat.lt_trans q14 q15))))))))
    have Vo6_519 : own_Arr Z h489 o6 .double [y60, y61, y62] := (own_Arr.keep (own_Arr.keep (own_Arr.keep (own_Arr.keep (own_Arr.keep (own_Arr.keep (own_Arr.other Vo6 W402 n512) K409q (ninS n513 nin0)) K421q (ninS n514 nin0)) K435q (ninS n515 nin0)) K451q (ninS n516 nin0)) K469q (ninS n517 nin0)) K489q (ninS n518 nin0))
    have n520 : a1 ≠ r6 := Nat.ne_of_lt (Nat.lt_trans q10 (Nat.lt_trans q11 (Nat.lt_trans q12 (Nat.lt_trans q13 (Nat.lt_trans q14 (Nat.lt_trans q15 q16))))))
    have n521 : r0 ≠ r6 := Nat.ne_of_lt (Nat.lt_trans q11 (Nat.lt_trans q12 (Nat.lt_trans q13 (Nat.lt_trans q14 (Nat.lt_trans q15 q16)))))
    have n522 : r1 ≠ r6 := Nat.ne_of_lt (Nat.lt_trans q12 (Nat.lt_trans q13 (Nat.lt_trans q14 (Nat.lt_trans q15 q16))))
    have n523 : r2 ≠ r6 := Nat.ne_of_lt (Nat.lt_trans q13 (Nat.lt_trans q14 (Nat.lt_trans q15 q16)))
    have n524 : r3 ≠ r6 := Nat.ne_of_lt (Nat.lt_trans q14 (Nat.lt_trans q15 q16))
    have n525 : r4 ≠ r6 := Nat.ne_of_lt (Nat.lt_trans q15 q16)
    have n526 : r5 ≠ r6 := Nat.ne_of_lt q16
    have Vr6_527 : own_Arr Z h489 r6 .double [x60, x61, x62] := (own_Arr.keep (own_Arr.keep (own_Arr.keep (own_Arr.keep (own_Arr.keep (own_Arr.keep (own_Arr.other Vr6 W402 (Ne.symm n520)) K409q (ninS (Ne.symm n521) nin0)) K421q (ninS (Ne.symm n522) nin0)) K435q (ninS (Ne.symm n523) nin0)) K451q (ninS (Ne.symm n524) nin0)) K469q (ninS (Ne.symm n525) nin0)) K489q (ninS (Ne.symm n526) nin0))
    refine own_cpA X509 hx hZ hown (own_w hw 55 rfl) (own_w hw 58 rfl) (own_w hw 56 rfl) (own_w hw 57 rfl) e509 Vo6_519 Vr6_527 rfl 0 0 3 (by decide) (by decide) (by decide) (by simp) (by simp) N489 g_r6 (by rw [hml]; rfl) (hb hby d5_136) (by decide) (W := 0) (Nat.le_of_eq rfl) (by decide) ?_
    intro T511 h511 L511 X511 e511 N511 K511q A511
    have sz511 : n0 ≤ h511.size := Nat.le_trans sz489 K511q.1
    have K511 : Keep h0 h511 [a1, r0, r1, r2, r3, r4, r5, r6, r7, r8] := K489.trans K511q (allS (Or.inl (by simp)) all0)
    have V511_0 : own_Arr Z h511 r6 .double [y60, y61, y62] := A511
    show own_Go p e below _ T511 (mkF m 139 #[.val (.ref a1), .val (.ref a2)] [])
    refine own_by (fun t_ k_ => XS.aloadN X511.here hx rfl (hb hby d5_139) rfl rfl k_) ?_
    show own_Go p e below _ T511 (mkF m 140 #[.val (.ref a1), .val (.ref a2)] [(.ref a2)])
    have n529 : a2 ≠ r6 := Nat.ne_of_lt (Nat.lt_trans q0 (Nat.lt_trans q1 (Nat.lt_trans q2 (Nat.lt_trans q3 (Nat.lt_trans q4 (Nat.lt_trans q5 (Nat.lt_trans q6 (Nat.lt_trans q7 (Nat.lt_trans q8 (Nat.lt_trans q9 (Nat.lt_trans q10 (Nat.lt_trans q11 (Nat.lt_trans q12 (Nat.lt_trans q13 (Nat.lt_trans q14 (Nat.lt_trans q15 q16))))))))))))))))
    have Fo_latest_530 : Fld Z h511 a2 "com/example/wayfold/wayfold/engine/DayTiming$Timeline" "latest" "[D" (.ref o7) := (Fld.keep (Fld.keep (Fld.keep (Fld.keep (Fld.keep (Fld.keep (Fld.keep (Fld.other W402 Fo_latest (Or.inl n404)) K409q (ninS n415 nin0)) K421q (ninS n429 nin0)) K435q (ninS n445 nin0)) K451q (ninS n463 nin0)) K469q (ninS n483 nin0)) K489q (ninS n505 nin0)) K511q (ninS n529 nin0))
    refine own_getF X511 hx hZ hown (own_w hw 27 rfl) Via.refl e511 Fo_latest_530 (hb hby d5_140) ?_
    intro T528 X528 e528
    show own_Go p e below _ T528 (mkF m 143 #[.val (.ref a1), .val (.ref a2)] [(.ref o7)])
    refine own_by (fun t_ k_ => XS.iconst X528.here hx rfl (hb hby d5_143) k_) ?_
    show own_Go p e below _ T528 (mkF m 144 #[.val (.ref a1), .val (.ref a2)] [(.int (0 : Int32)), (.ref o7)])
    refine own_by (fun t_ k_ => XS.aloadN X528.here hx rfl (hb hby d5_144) rfl rfl k_) ?_
    show own_Go p e below _ T528 (mkF m 145 #[.val (.ref a1), .val (.ref a2)] [(.ref a1), (.int (0 : Int32)), (.ref o7)])
    have Fr_latest_532 : Fld Z h511 a1 "com/example/wayfold/wayfold/engine/DayTiming$Timeline" "latest" "[D" (.ref r7) := (Fld.keep (Fld.keep (Fld.keep (Fld.keep (Fld.keep (Fld.keep (Fld.keep (Fld.other W402 Fr_latest (Or.inr (slot_ne (Or.inr (own_w hw 28 rfl)) (Or.inl (own_w hw 32 rfl)) (by decide) (t := (.array .double)) (t' := .int) (by decide) (by decide)))) K409q (ninS n412 nin0)) K421q (ninS n425 nin0)) K435q (ninS n440 nin0)) K451q (ninS n457 nin0)) K469q (ninS n476 nin0)) K489q (ninS n497 nin0)) K511q (ninS n520 nin0))
    refine own_getF X528 hx hZ hown (own_w hw 27 rfl) Via.refl e528 Fr_latest_532 (hb hby d5_145) ?_
    intro T531 X531 e531
    show own_Go p e below _ T531 (mkF m 148 #[.val (.ref a1), .val (.ref a2)] [(.ref r7), (.int (0 : Int32)), (.ref o7)])
    refine own_by (fun t_ k_ => XS.iconst X531.here hx rfl (hb hby d5_148) k_) ?_
    show own_Go p e below _ T531 (mkF m 149 #[.val (.ref a1), .val (.ref a2)] [(.int (0 : Int32)), (.ref r7), (.int (0 : Int32)), (.ref o7)])
    refine own_by (fun t_ k_ => XS.aloadN X531.here hx rfl (hb hby d5_149) rfl rfl k_) ?_
    show own_Go p e below _ T531 (mkF m 150 #[.val (.ref a1), .val (.ref a2)] [(.ref a1), (.int (0 : Int32)), (.ref r7), (.int (0 : Int32)), (.ref o7)])
    have F402_534 : Fld Z h511 a1 "com/example/wayfold/wayfold/engine/DayTiming$Timeline" "length" "I" (.int (2 : Int32)) := (Fld.keep F402_510 K511q (ninS n520 nin0))
    refine own_getF X531 hx hZ hown (own_w hw 54 rfl) Via.refl e531 F402_534 (hb hby d5_150) ?_
    intro T533 X533 e533
    show own_Go p e below _ T533 (mkF m 153 #[.val (.ref a1), .val (.ref a2)] [(.int (2 : Int32)), (.int (0 : Int32)), (.ref r7), (.int (0 : Int32)), (.ref o7)])
    refine own_by (fun t_ k_ => XS.iconst X533.here hx rfl (hb hby d5_153) k_) ?_
    show own_Go p e below _ T533 (mkF m 154 #[.val (.ref a1), .val (.ref a2)] [(.int (1 : Int32)), (.int (2 : Int32)), (.int (0 : Int32)), (.ref r7), (.int (0 : Int32)), (.ref o7)])
    refine own_by (fun t_ k_ => XS.iadd X533.here hx rfl (hb hby d5_154) rfl k_) ?_
    show own_Go p e below _ T533 (mkF m 155 #[.val (.ref a1), .val (.ref a2)] [(.int (3 : Int32)), (.int (0 : Int32)), (.ref r7), (.int (0 : Int32)), (.ref o7)])
    have n536 : o7 ≠ a1 := Nat.ne_of_lt (Nat.lt_trans q8 q9)
    have n537 : o7 ≠ r0 := Nat.ne_of_lt (Nat.lt_trans q8 (Nat.lt_trans q9 q10))
    have n538 : o7 ≠ r1 := Nat.ne_of_lt (Nat.lt_trans q8 (Nat.lt_trans q9 (Nat.lt_trans q10 q11)))
    have n539 : o7 ≠ r2 := Nat.ne_of_lt (Nat.lt_trans q8 (Nat.lt_trans q9 (Nat.lt_trans q10 (Nat.lt_trans q11 q12))))
    have n540 : o7 ≠ r3 := Nat.ne_of_lt (Nat.lt_trans q8 (Nat.lt_trans q9 (Nat.lt_trans q10 (Nat.lt_trans q11 (Nat.lt_trans q12 q13)))))
    have n541 : o7 ≠ r4 := Nat.ne_of_lt (Nat.lt_trans q8 (Nat.lt_trans q9 (Nat.lt_trans q10 (Nat.lt_trans q11 (Nat.lt_trans q12 (Nat.lt_trans q13 q14))))))
    have n542 : o7 ≠ r5 := Nat.ne_of_lt (Nat.lt_trans q8 (Nat.lt_trans q9 (Nat.lt_trans q10 (Nat.lt_trans q11 (Nat.lt_trans q12 (Nat.lt_trans q13 (Nat.lt_trans q14 q15)))))))
    have n543 : o7 ≠ r6 := Nat.ne_of_lt (Nat.lt_trans q8 (Nat.lt_trans q9 (Nat.lt_trans q10 (Nat.lt_trans q11 (Nat.lt_trans q12 (Nat.lt_trans q13 (Nat.lt_trans q14 (Nat.lt_trans q15 q16))))))))
    have Vo7_544 : own_Arr Z h511 o7 .double [y70, y71, y72] := (own_Arr.keep (own_Arr.keep (own_Arr.keep (own_Arr.keep (own_Arr.keep (own_Arr.keep (own_Arr.keep (own_Arr.other Vo7 W402 n536) K409q (ninS n537 nin0)) K421q (ninS n538 nin0)) K435q (ninS n539 nin0)) K451q (ninS n540 nin0)) K469q (ninS n541 nin0)) K489q (ninS n542 nin0)) K511q (ninS n543 nin0))
    have n545 : a1 ≠ r7 := Nat.ne_of_lt (Nat.lt_trans q10 (Nat.lt_trans q11 (Nat.lt_trans q12 (Nat.lt_trans q13 (Nat.lt_trans q14 (Nat.lt_trans q15 (Nat.lt_trans q16 q17)))))))
    have n546 : r0 ≠ r7 := Nat.ne_of_lt (Nat.lt_trans q11 (Nat.lt_trans q12 (Nat.lt_trans q13 (Nat.lt_trans q14 (Nat.lt_trans q15 (Nat.lt_trans q16 q17))))))
    have n547 : r1 ≠ r7 := Nat.ne_of_lt (Nat.lt_trans q12 (Nat.lt_trans q13 (Nat.lt_trans q14 (Nat.lt_trans q15 (Nat.lt_trans q16 q17)))))
    have n548 : r2 ≠ r7 := Nat.ne_of_lt (Nat.lt_trans q13 (Nat.lt_trans q14 (Nat.lt_trans q15 (Nat.lt_trans q16 q17))))
    have n549 : r3 ≠ r7 := Nat.ne_of_lt (Nat.lt_trans q14 (Nat.lt_trans q15 (Nat.lt_trans q16 q17)))
    have n550 : r4 ≠ r7 := Nat.ne_of_lt (Nat.lt_trans q15 (Nat.lt_trans q16 q17))
    have n551 : r5 ≠ r7 := Nat.ne_of_lt (Nat.lt_trans q16 q17)
    have n552 : r6 ≠ r7 := Nat.ne_of_lt q17
    have Vr7_553 : own_Arr Z h511 r7 .double [x70, x71, x72] := (own_Arr.keep (own_Arr.keep (own_Arr.keep (own_Arr.keep (own_Arr.keep (own_Arr.keep (own_Arr.keep (own_Arr.other Vr7 W402 (Ne.symm n545)) K409q (ninS (Ne.symm n546) nin0)) K421q (ninS (Ne.symm n547) nin0)) K435q (ninS (Ne.symm n548) nin0)) K451q (ninS (Ne.symm n549) nin0)) K469q (ninS (Ne.symm n550) nin0)) K489q (ninS (Ne.symm n551) nin0)) K511q (ninS (Ne.symm n552) nin0))
    refine own_cpA X533 hx hZ hown (own_w hw 55 rfl) (own_w hw 58 rfl) (own_w hw 56 rfl) (own_w hw 57 rfl) e533 Vo7_544 Vr7_553 rfl 0 0 3 (by decide) (by decide) (by decide) (by simp) (by simp) N511 g_r7 (by rw [hml]; rfl) (hb hby d5_155) (by decide) (W := 0) (Nat.le_of_eq rfl) (by decide) ?_
    intro T535 h535 L535 X535 e535 N535 K535q A535
    have sz535 : n0 ≤ h535.size := Nat.le_trans sz511 K535q.1
    have K535 : Keep h0 h535 [a1, r0, r1, r2, r3, r4, r5, r6, r7, r8] := K511.trans K535q (allS (Or.inl (by simp)) all0)
    have V535_0 : own_Arr Z h535 r7 .double [y70, y71, y72] := A535
    show own_Go p e below _ T535 (mkF m 158 #[.val (.ref a1), .val (.ref a2)] [])
    refine own_by (fun t_ k_ => XS.aloadN X535.here hx rfl (hb hby d5_158) rfl rfl k_) ?_
    show own_Go p e below _ T535 (mkF m 159 #[.val (.ref a1), .val (.ref a2)] [(.ref a2)])
    have n555 : a2 ≠ r7 := Nat.ne_of_lt (Nat.lt_trans q0 (Nat.lt_trans q1 (Nat.lt_trans q2 (Nat.lt_trans q3 (Nat.lt_trans q4 (Nat.lt_trans q5 (Nat.lt_trans q6 (Nat.lt_trans q7 (Nat.lt_trans q8 (Nat.lt_trans q9 (Nat.lt_trans q10 (Nat.lt_trans q11 (Nat.lt_trans q12 (Nat.lt_trans q13 (Nat.lt_trans q14 (Nat.lt_trans q15 (Nat.lt_trans q16 q17)))))))))))))))))
    have Fo_best_556 : Fld Z h535 a2 "com/example/wayfold/wayfold/engine/DayTiming$Timeline" "best" "[D" (.ref o8) := (Fld.keep (Fld.keep (Fld.keep (Fld.keep (Fld.keep (Fld.keep (Fld.keep (Fld.keep (Fld.other W402 Fo_best (Or.inl n404)) K409q (ninS n415 nin0)) K421q (ninS n429 nin0)) K435q (ninS n445 nin0)) K451q (ninS n463 nin0)) K469q (ninS n483 nin0)) K489q (ninS n505 nin0)) K511q (ninS n529 nin0)) K535q (ninS n555 nin0))
    refine own_getF X535 hx hZ hown (own_w hw 29 rfl) Via.refl e535 Fo_best_556 (hb hby d5_159) ?_
    intro T554 X554 e554
    show own_Go p e below _ T554 (mkF m 162 #[.val (.ref a1), .val (.ref a2)] [(.ref o8)])
    refine own_by (fun t_ k_ => XS.iconst X554.here hx rfl (hb hby d5_162) k_) ?_
    show own_Go p e below _ T554 (mkF m 163 #[.val (.ref a1), .val (.ref a2)] [(.int (0 : Int32)), (.ref o8)])
    refine own_by (fun t_ k_ => XS.aloadN X554.here hx rfl (hb hby d5_163) rfl rfl k_) ?_
    show own_Go p e below _ T554 (mkF m 164 #[.val (.ref a1), .val (.ref a2)] [(.ref a1), (.int (0 : Int32)), (.ref o8)])
    have Fr_best_558 : Fld Z h535 a1 "com/example/wayfold/wayfold/engine/DayTiming$Timeline" "best" "[D" (.ref r8) := (Fld.keep (Fld.keep (Fld.keep (Fld.keep (Fld.keep (Fld.keep (Fld.keep (Fld.keep (Fld.other W402 Fr_best (Or.inr (slot_ne (Or.inr (own_w hw 30 rfl)) (Or.inl (own_w hw 32 rfl)) (by decide) (t := (.array .double)) (t' := .int) (by decide) (by decide)))) K409q (ninS n412 nin0)) K421q (ninS n425 nin0)) K435q (ninS n440 nin0)) K451q (ninS n457 nin0)) K469q (ninS n476 nin0)) K489q (ninS n497 nin0)) K511q (ninS n520 nin0)) K535q (ninS n545 nin0))
    refine own_getF X554 hx hZ hown (own_w hw 29 rfl) Via.refl e554 Fr_best_558 (hb hby d5_164) ?_
    intro T557 X557 e557
    show own_Go p e below _ T557 (mkF m 167 #[.val (.ref a1), .val (.ref a2)] [(.ref r8), (.int (0 : Int32)), (.ref o8)])
    refine own_by (fun t_ k_ => XS.iconst X557.here hx rfl (hb hby d5_167) k_) ?_
    show own_Go p e below _ T557 (mkF m 168 #[.val (.ref a1), .val (.ref a2)] [(.int (0 : Int32)), (.ref r8), (.int (0 : Int32)), (.ref o8)])
    refine own_by (fun t_ k_ => XS.aloadN X557.here hx rfl (hb hby d5_168) rfl rfl k_) ?_
    show own_Go p e below _ T557 (mkF m 169 #[.val (.ref a1), .val (.ref a2)] [(.ref a1), (.int (0 : Int32)), (.ref r8), (.int (0 : Int32)), (.ref o8)])
    have F402_560 : Fld Z h535 a1 "com/example/wayfold/wayfold/engine/DayTiming$Timeline" "length" "I" (.int (2 : Int32)) := (Fld.keep F402_534 K535q (ninS n545 nin0))
    refine own_getF X557 hx hZ hown (own_w hw 54 rfl) Via.refl e557 F402_560 (hb hby d5_169) ?_
    intro T559 X559 e559
    show own_Go p e below _ T559 (mkF m 172 #[.val (.ref a1), .val (.ref a2)] [(.int (2 : Int32)), (.int (0 : Int32)), (.ref r8), (.int (0 : Int32)), (.ref o8)])
    refine own_by (fun t_ k_ => XS.iconst X559.here hx rfl (hb hby d5_172) k_) ?_
    show own_Go p e below _ T559 (mkF m 173 #[.val (.ref a1), .val (.ref a2)] [(.int (1 : Int32)), (.int (2 : Int32)), (.int (0 : Int32)), (.ref r8), (.int (0 : Int32)), (.ref o8)])
    refine own_by (fun t_ k_ => XS.iadd X559.here hx rfl (hb hby d5_173) rfl k_) ?_
    show own_Go p e below _ T559 (mkF m 174 #[.val (.ref a1), .val (.ref a2)] [(.int (3 : Int32)), (.int (0 : Int32)), (.ref r8), (.int (0 : Int32)), (.ref o8)])
    have n562 : o8 ≠ a1 := Nat.ne_of_lt q9
    have n563 : o8 ≠ r0 := Nat.ne_of_lt (Nat.lt_trans q9 q10)
    have n564 : o8 ≠ r1 := Nat.ne_of_lt (Nat.lt_trans q9 (Nat.lt_trans q10 q11))
    have n565 : o8 ≠ r2 := Nat.ne_of_lt (Nat.lt_trans q9 (Nat.lt_trans q10 (Nat.lt_trans q11 q12)))
    have n566 : o8 ≠ r3 := Nat.ne_of_lt (Nat.lt_trans q9 (Nat.lt_trans q10 (Nat.lt_trans q11 (Nat.lt_trans q12 q13))))
    have n567 : o8 ≠ r4 := Nat.ne_of_lt (Nat.lt_trans q9 (Nat.lt_trans q10 (Nat.lt_trans q11 (Nat.lt_trans q12 (Nat.lt_trans q13 q14)))))
    have n568 : o8 ≠ r5 := Nat.ne_of_lt (Nat.lt_trans q9 (Nat.lt_trans q10 (Nat.lt_trans q11 (Nat.lt_trans q12 (Nat.lt_trans q13 (Nat.lt_trans q14 q15))))))
    have n569 : o8 ≠ r6 := Nat.ne_of_lt (Nat.lt_trans q9 (Nat.lt_trans q10 (Nat.lt_trans q11 (Nat.lt_trans q12 (Nat.lt_trans q13 (Nat.lt_trans q14 (Nat.lt_trans q15 q16)))))))
    have n570 : o8 ≠ r7 := Nat.ne_of_lt (Nat.lt_trans q9 (Nat.lt_trans q10 (Nat.lt_trans q11 (Nat.lt_trans q12 (Nat.lt_trans q13 (Nat.lt_trans q14 (Nat.lt_trans q15 (Nat.lt_trans q16 q17))))))))
    have Vo8_571 : own_Arr Z h535 o8 .double [y80, y81, y82] := (own_Arr.keep (own_Arr.keep (own_Arr.keep (own_Arr.keep (own_Arr.keep (own_Arr.keep (own_Arr.keep (own_Arr.keep (own_Arr.other Vo8 W402 n562) K409q (ninS n563 nin0)) K421q (ninS n564 nin0)) K435q (ninS n565 nin0)) K451q (ninS n566 nin0)) K469q (ninS n567 nin0)) K489q (ninS n568 nin0)) K511q (ninS n569 nin0)) K535q (ninS n570 nin0))
    have n572 : a1 ≠ r8 := Nat.ne_of_lt (Nat.lt_trans q10 (Nat.lt_trans q11 (Nat.lt_trans q12 (Nat.lt_trans q13 (Nat.lt_trans q14 (Nat.lt_trans q15 (Nat.lt_trans q16 (Nat.lt_trans q17 q18))))))))
    have n573 : r0 ≠ r8 := Nat.ne_of_lt (Nat.lt_trans q11 (Nat.lt_trans q12 (Nat.lt_trans q13 (Nat.lt_trans q14 (Nat.lt_trans q15 (Nat.lt_trans q16 (Nat.lt_trans q17 q18)))))))
    have n574 : r1 ≠ r8 := Nat.ne_of_lt (Nat.lt_trans q12 (Nat.lt_trans q13 (Nat.lt_trans q14 (Nat.lt_trans q15 (Nat.lt_trans q16 (Nat.lt_trans q17 q18))))))
    have n575 : r2 ≠ r8 := Nat.ne_of_lt (Nat.lt_trans q13 (Nat.lt_trans q14 (Nat.lt_trans q15 (Nat.lt_trans q16 (Nat.lt_trans q17 q18)))))
    have n576 : r3 ≠ r8 := Nat.ne_of_lt (Nat.lt_trans q14 (Nat.lt_trans q15 (Nat.lt_trans q16 (Nat.lt_trans q17 q18))))
    have n577 : r4 ≠ r8 := Nat.ne_of_lt (Nat.lt_trans q15 (Nat.lt_trans q16 (Nat.lt_trans q17 q18)))
    have n578 : r5 ≠ r8 := Nat.ne_of_lt (Nat.lt_trans q16 (Nat.lt_trans q17 q18))
    have n579 : r6 ≠ r8 := Nat.ne_of_lt (Nat.lt_trans q17 q18)
    have n580 : r7 ≠ r8 := Nat.ne_of_lt q18
    have Vr8_581 : own_Arr Z h535 r8 .double [x80, x81, x82] := (own_Arr.keep (own_Arr.keep (own_Arr.keep (own_Arr.keep (own_Arr.keep (own_Arr.keep (own_Arr.keep (own_Arr.keep (own_Arr.other Vr8 W402 (Ne.symm n572)) K409q (ninS (Ne.symm n573) nin0)) K421q (ninS (Ne.symm n574) nin0)) K435q (ninS (Ne.symm n575) nin0)) K451q (ninS (Ne.symm n576) nin0)) K469q (ninS (Ne.symm n577) nin0)) K489q (ninS (Ne.symm n578) nin0)) K511q (ninS (Ne.symm n579) nin0)) K535q (ninS (Ne.symm n580) nin0))
    refine own_cpA X559 hx hZ hown (own_w hw 55 rfl) (own_w hw 58 rfl) (own_w hw 56 rfl) (own_w hw 57 rfl) e559 Vo8_571 Vr8_581 rfl 0 0 3 (by decide) (by decide) (by decide) (by simp) (by simp) N535 g_r8 (by rw [hml]; rfl) (hb hby d5_174) (by decide) (W := 0) (Nat.le_of_eq rfl) (by decide) ?_
    intro T561 h561 L561 X561 e561 N561 K561q A561
    have sz561 : n0 ≤ h561.size := Nat.le_trans sz535 K561q.1
    have K561 : Keep h0 h561 [a1, r0, r1, r2, r3, r4, r5, r6, r7, r8] := K535.trans K561q (allS (Or.inl (by simp)) all0)
    have V561_0 : own_Arr Z h561 r8 .double [y80, y81, y82] := A561
    show own_Go p e below _ T561 (mkF m 177 #[.val (.ref a1), .val (.ref a2)] [])
    refine own_retV X561 hx hlk Bd.returns (hb hby d5_177) e561 (by decide) (by decide) ?_
    have E_a1_582 : Exa Z h561 a1 "com/example/wayfold/wayfold/engine/DayTiming$Timeline" := (Exa.keep (Exa.keep (Exa.keep (Exa.keep (Exa.keep (Exa.keep (Exa.keep (Exa.keep (Exa.keep (Exa.wr W402 E_a1) K409q) K421q) K435q) K451q) K469q) K489q) K511q) K535q) K561q)
    have F402_583 : Fld Z h561 a1 "com/example/wayfold/wayfold/engine/DayTiming$Timeline" "length" "I" (.int (2 : Int32)) := (Fld.keep F402_560 K561q (ninS n572 nin0))
    have Fr_nodes_584 : Fld Z h561 a1 "com/example/wayfold/wayfold/engine/DayTiming$Timeline" "nodes" "[I" (.ref r0) := (Fld.keep (Fld.keep (Fld.keep (Fld.keep (Fld.keep (Fld.keep (Fld.keep (Fld.keep (Fld.keep Fr_nodes_407 K409q (ninS n412 nin0)) K421q (ninS n425 nin0)) K435q (ninS n440 nin0)) K451q (ninS n457 nin0)) K469q (ninS n476 nin0)) K489q (ninS n497 nin0)) K511q (ninS n520 nin0)) K535q (ninS n545 nin0)) K561q (ninS n572 nin0))
    have Fr_leave_585 : Fld Z h561 a1 "com/example/wayfold/wayfold/engine/DayTiming$Timeline" "leave" "[D" (.ref r1) := (Fld.keep (Fld.keep (Fld.keep (Fld.keep (Fld.keep (Fld.keep (Fld.keep (Fld.keep Fr_leave_418 K421q (ninS n425 nin0)) K435q (ninS n440 nin0)) K451q (ninS n457 nin0)) K469q (ninS n476 nin0)) K489q (ninS n497 nin0)) K511q (ninS n520 nin0)) K535q (ninS n545 nin0)) K561q (ninS n572 nin0))
    have Fr_interest_586 : Fld Z h561 a1 "com/example/wayfold/wayfold/engine/DayTiming$Timeline" "interest" "[D" (.ref r2) := (Fld.keep (Fld.keep (Fld.keep (Fld.keep (Fld.keep (Fld.keep (Fld.keep Fr_interest_432 K435q (ninS n440 nin0)) K451q (ninS n457 nin0)) K469q (ninS n476 nin0)) K489q (ninS n497 nin0)) K511q (ninS n520 nin0)) K535q (ninS n545 nin0)) K561q (ninS n572 nin0))
    have Fr_travel_587 : Fld Z h561 a1 "com/example/wayfold/wayfold/engine/DayTiming$Timeline" "travel" "[D" (.ref r3) := (Fld.keep (Fld.keep (Fld.keep (Fld.keep (Fld.keep (Fld.keep Fr_travel_448 K451q (ninS n457 nin0)) K469q (ninS n476 nin0)) K489q (ninS n497 nin0)) K511q (ninS n520 nin0)) K535q (ninS n545 nin0)) K561q (ninS n572 nin0))
    have Fr_visit_588 : Fld Z h561 a1 "com/example/wayfold/wayfold/engine/DayTiming$Timeline" "visit" "[D" (.ref r4) := (Fld.keep (Fld.keep (Fld.keep (Fld.keep (Fld.keep Fr_visit_466 K469q (ninS n476 nin0)) K489q (ninS n497 nin0)) K511q (ninS n520 nin0)) K535q (ninS n545 nin0)) K561q (ninS n572 nin0))
    have Fr_waiting_589 : Fld Z h561 a1 "com/example/wayfold/wayfold/engine/DayTiming$Timeline" "waiting" "[D" (.ref r5) := (Fld.keep (Fld.keep (Fld.keep (Fld.keep Fr_waiting_486 K489q (ninS n497 nin0)) K511q (ninS n520 nin0)) K535q (ninS n545 nin0)) K561q (ninS n572 nin0))
    have Fr_load_590 : Fld Z h561 a1 "com/example/wayfold/wayfold/engine/DayTiming$Timeline" "load" "[D" (.ref r6) := (Fld.keep (Fld.keep (Fld.keep Fr_load_508 K511q (ninS n520 nin0)) K535q (ninS n545 nin0)) K561q (ninS n572 nin0))
    have Fr_latest_591 : Fld Z h561 a1 "com/example/wayfold/wayfold/engine/DayTiming$Timeline" "latest" "[D" (.ref r7) := (Fld.keep (Fld.keep Fr_latest_532 K535q (ninS n545 nin0)) K561q (ninS n572 nin0))
    have Fr_best_592 : Fld Z h561 a1 "com/example/wayfold/wayfold/engine/DayTiming$Timeline" "best" "[D" (.ref r8) := (Fld.keep Fr_best_558 K561q (ninS n572 nin0))
    have V409_593 : own_Arr Z h561 r0 .int [y00, y01] := (own_Arr.keep (own_Arr.keep (own_Arr.keep (own_Arr.keep (own_Arr.keep (own_Arr.keep (own_Arr.keep (own_Arr.keep V409_0 K421q (ninS n426 nin0)) K435q (ninS n441 nin0)) K451q (ninS n458 nin0)) K469q (ninS n477 nin0)) K489q (ninS n498 nin0)) K511q (ninS n521 nin0)) K535q (ninS n546 nin0)) K561q (ninS n573 nin0))
    have V421_594 : own_Arr Z h561 r1 .double [y10, y11, y12] := (own_Arr.keep (own_Arr.keep (own_Arr.keep (own_Arr.keep (own_Arr.keep (own_Arr.keep (own_Arr.keep V421_0 K435q (ninS n442 nin0)) K451q (ninS n459 nin0)) K469q (ninS n478 nin0)) K489q (ninS n499 nin0)) K511q (ninS n522 nin0)) K535q (ninS n547 nin0)) K561q (ninS n574 nin0))
    have V435_595 : own_Arr Z h561 r2 .double [y20, y21, y22] := (own_Arr.keep (own_Arr.keep (own_Arr.keep (own_Arr.keep (own_Arr.keep (own_Arr.keep V435_0 K451q (ninS n460 nin0)) K469q (ninS n479 nin0)) K489q (ninS n500 nin0)) K511q (ninS n523 nin0)) K535q (ninS n548 nin0)) K561q (ninS n575 nin0))
    have V451_596 : own_Arr Z h561 r3 .double [y30, y31, y32] := (own_Arr.keep (own_Arr.keep (own_Arr.keep (own_Arr.keep (own_Arr.keep V451_0 K469q (ninS n480 nin0)) K489q (ninS n501 nin0)) K511q (ninS n524 nin0)) K535q (ninS n549 nin0)) K561q (ninS n576 nin0))
    have V469_597 : own_Arr Z h561 r4 .double [y40, y41, y42] := (own_Arr.keep (own_Arr.keep (own_Arr.keep (own_Arr.keep V469_0 K489q (ninS n502 nin0)) K511q (ninS n525 nin0)) K535q (ninS n550 nin0)) K561q (ninS n577 nin0))
    have V489_598 : own_Arr Z h561 r5 .double [y50, y51, y52] := (own_Arr.keep (own_Arr.keep (own_Arr.keep V489_0 K511q (ninS n526 nin0)) K535q (ninS n551 nin0)) K561q (ninS n578 nin0))
    have V511_599 : own_Arr Z h561 r6 .double [y60, y61, y62] := (own_Arr.keep (own_Arr.keep V511_0 K535q (ninS n552 nin0)) K561q (ninS n579 nin0))
    have V535_600 : own_Arr Z h561 r7 .double [y70, y71, y72] := (own_Arr.keep V535_0 K561q (ninS n580 nin0))
    exact ⟨rfl, N561, K561, E_a1_582, F402_583, ⟨Fr_nodes_584, Fr_leave_585, Fr_interest_586, Fr_travel_587, Fr_visit_588, Fr_waiting_589, Fr_load_590, Fr_latest_591, Fr_best_592⟩, V409_593, V421_594, V435_595, V451_596, V469_597, V489_598, V511_599, V535_600, V561_0⟩
theorem ef_7 (m : MethodId) (a1 : Addr) (p2 : Int32) (p3 : Int32) (p4 : Int32) : entryFrame m #[(.ref a1), (.int p2), (.int p3), (.int p4)] 4 = mkF m 0 #[.val (.ref a1), .val (.int p2), .val (.int p3), .val (.int p4)] [] := by first | (simp [entryFrame, mkF, argsToLocals, Value.category]; done) | rfl
set_option maxRecDepth 65536 in
set_option maxHeartbeats 40000000 in
theorem rm7 (l : Launch) (Z : State) (a0 : Array Value) (hw : ∀ d ∈ tables_1, d.before a0 Z = true) (ws : List Jvm.Cond) (a1 : Addr) (p2 : Int32) (p3 : Int32) (p4 : Int32) (g0 : Int32) (g1 : Int32) (g2 : Int32) (h0 : Heap) (n0 : Nat) (Z0 : n0 ≤ h0.size) (V_a1 : own_Arr Z h0 a1 .double [.double (FP.i2d g0), .double (FP.i2d g1), .double (FP.i2d g2)]) (hg0 : g0 = p2) (hg1 : g1 = if p4 < 1 then p3 + 1 else p2 + 1) (hg2 : g2 = if p4 < 2 then p3 + 2 else p2 + 2) :
    MetFree l (⟨"com/example/wayfold/wayfold/engine/TimelineCopyPinLaw", "ok", "([DIII)Z"⟩ : MethodName) (head1 (Jvm.Cond.code (⟨"com/example/wayfold/wayfold/engine/TimelineCopyPinLaw", "ok", "([DIII)Z"⟩ : MethodName) method_4_code 4 (some .boolean) :: ws) ({ frames := 0, cells := 0, slots := 0, locals := 0 } : Room)) (fun a U => a = #[(.ref a1), (.int p2), (.int p3), (.int p4)] ∧ Z.Warmed39 U.vm ∧ U.heap = h0) (fun _ _ _ _ _ => True) (fun _ U o U' => ∃ v L, o = .returned v ∧ QT h0 n0 v U'.heap L ∧ FrameEnd U o U' L ({ frames := 0, cells := 0, slots := 0, locals := 0 } : Room).cells ({ frames := 0, cells := 0, slots := 0, locals := 0 } : Room).slots) := by
  refine MetFree.of_bodySF (plainFor_of_name pn_0) hisR ?_
  intro p e s m args below meth c s₁ Bd hml0 hP hK
  obtain ⟨rfl, hZ, hh⟩ := hP
  have hx := Bd.exec
  have hby := Bd.bytes
  have hml : c.maxLocals = 4 := hml0
  have hown : s.vm.findClass "com/example/wayfold/wayfold/engine/TimelineCopyPinLaw" = some m.cls := findClass_of_methodNamed Bd.named
  have hnm := (name_of_methodNamed Bd.named Bd.method).1
  have hlk : meth.locks = false := BodyLoose.notSynchronized Bd
  have X0 : Stand p l e ({ frames := 0, cells := 0, slots := 0, locals := 0 } : Room) s m #[(.ref a1), (.int p2), (.int p3), (.int p4)] below meth c s₁ [] 0 0 := Stand.of_body Bd
  have e0 : s₁.heap = h0 := by rw [← hh, Bd.state]; rfl
  have N0 := Fr.nil n0
  refine own_start (Q := QT h0 n0) (ef_7 m a1 p2 p3 p4) ?_
  show own_Go p e below _ s₁ (mkF m 0 #[.val (.ref a1), .val (.int p2), .val (.int p3), .val (.int p4)] [])
  refine own_by (fun t_ k_ => XS.aloadN X0.here hx rfl (hb hby d7_0) rfl rfl k_) ?_
  show own_Go p e below _ s₁ (mkF m 1 #[.val (.ref a1), .val (.int p2), .val (.int p3), .val (.int p4)] [(.ref a1)])
  refine own_by (fun t_ k_ => XS.iconst X0.here hx rfl (hb hby d7_1) k_) ?_
  show own_Go p e below _ s₁ (mkF m 2 #[.val (.ref a1), .val (.int p2), .val (.int p3), .val (.int p4)] [(.int (0 : Int32)), (.ref a1)])
  refine own_daload X0 hx hZ e0 V_a1 (v := (.double (FP.i2d g0))) 0 (by decide) rfl (hb hby d7_2) ?_
  show own_Go p e below _ s₁ (mkF m 3 #[.val (.ref a1), .val (.int p2), .val (.int p3), .val (.int p4)] [(.double (FP.i2d g0))])
  refine own_by (fun t_ k_ => XS.iloadN X0.here hx rfl (hb hby d7_3) rfl k_) ?_
  show own_Go p e below _ s₁ (mkF m 4 #[.val (.ref a1), .val (.int p2), .val (.int p3), .val (.int p4)] [(.int p2), (.double (FP.i2d g0))])
  refine own_by (fun t_ k_ => XS.i2dS X0.here hx rfl (hb hby d7_4) rfl rfl k_) ?_
  show own_Go p e below _ s₁ (mkF m 5 #[.val (.ref a1), .val (.int p2), .val (.int p3), .val (.int p4)] [(.double (FP.i2d p2)), (.double (FP.i2d g0))])
  refine own_by (fun t_ k_ => XS.dcmpS X0.here hx rfl (hb hby d7_5) rfl rfl k_) ?_
  show own_Go p e below _ s₁ (mkF m 6 #[.val (.ref a1), .val (.int p2), .val (.int p3), .val (.int p4)] [(.int (cmpValue (FP.dcmp (FP.i2d g0) (FP.i2d p2)) .l))])
  refine own_if X0 hx 11 (hb hby d7_6) (by decide) (by decide) (fun _ => ?_) (fun hc => absurd (show (cmpValue (FP.dcmp (FP.i2d g0) (FP.i2d p2)) .l) = (0 : Int32) from own_dc hg0) (by first | exact hc | exact not_not_intro hc))
  show own_Go p e below _ s₁ (mkF m 11 #[.val (.ref a1), .val (.int p2), .val (.int p3), .val (.int p4)] [])
  refine own_by (fun t_ k_ => XS.iloadN X0.here hx rfl (hb hby d7_11) rfl k_) ?_
  show own_Go p e below _ s₁ (mkF m 12 #[.val (.ref a1), .val (.int p2), .val (.int p3), .val (.int p4)] [(.int p4)])
  refine own_by (fun t_ k_ => XS.iconst X0.here hx rfl (hb hby d7_12) k_) ?_
  show own_Go p e below _ s₁ (mkF m 13 #[.val (.ref a1), .val (.int p2), .val (.int p3), .val (.int p4)] [(.int (1 : Int32)), (.int p4)])
  refine own_icmp X0 hx 30 (hb hby d7_13) (by decide) (by decide) (fun (hc13 : p4 < (1 : Int32)) => ?_) (fun (hc13 : ¬ p4 < (1 : Int32)) => ?_)
  · show own_Go p e below _ s₁ (mkF m 30 #[.val (.ref a1), .val (.int p2), .val (.int p3), .val (.int p4)] [])
    refine own_by (fun t_ k_ => XS.aloadN X0.here hx rfl (hb hby d7_30) rfl rfl k_) ?_
    show own_Go p e below _ s₁ (mkF m 31 #[.val (.ref a1), .val (.int p2), .val (.int p3), .val (.int p4)] [(.ref a1)])
    refine own_by (fun t_ k_ => XS.iconst X0.here hx rfl (hb hby d7_31) k_) ?_
    show own_Go p e below _ s₁ (mkF m 32 #[.val (.ref a1), .val (.int p2), .val (.int p3), .val (.int p4)] [(.int (1 : Int32)), (.ref a1)])
    refine own_daload X0 hx hZ e0 V_a1 (v := (.double (FP.i2d g1))) 1 (by decide) rfl (hb hby d7_32) ?_
    show own_Go p e below _ s₁ (mkF m 33 #[.val (.ref a1), .val (.int p2), .val (.int p3), .val (.int p4)] [(.double (FP.i2d g1))])
    refine own_by (fun t_ k_ => XS.iloadN X0.here hx rfl (hb hby d7_33) rfl k_) ?_
    show own_Go p e below _ s₁ (mkF m 34 #[.val (.ref a1), .val (.int p2), .val (.int p3), .val (.int p4)] [(.int p3), (.double (FP.i2d g1))])
    refine own_by (fun t_ k_ => XS.iconst X0.here hx rfl (hb hby d7_34) k_) ?_
    show own_Go p e below _ s₁ (mkF m 35 #[.val (.ref a1), .val (.int p2), .val (.int p3), .val (.int p4)] [(.int (1 : Int32)), (.int p3), (.double (FP.i2d g1))])
    refine own_by (fun t_ k_ => XS.iadd X0.here hx rfl (hb hby d7_35) rfl k_) ?_
    show own_Go p e below _ s₁ (mkF m 36 #[.val (.ref a1), .val (.int p2), .val (.int p3), .val (.int p4)] [(.int (p3 + (1 : Int32))), (.double (FP.i2d g1))])
    refine own_by (fun t_ k_ => XS.i2dS X0.here hx rfl (hb hby d7_36) rfl rfl k_) ?_
    show own_Go p e below _ s₁ (mkF m 37 #[.val (.ref a1), .val (.int p2), .val (.int p3), .val (.int p4)] [(.double (FP.i2d (p3 + (1 : Int32)))), (.double (FP.i2d g1))])
    refine own_by (fun t_ k_ => XS.dcmpS X0.here hx rfl (hb hby d7_37) rfl rfl k_) ?_
    show own_Go p e below _ s₁ (mkF m 38 #[.val (.ref a1), .val (.int p2), .val (.int p3), .val (.int p4)] [(.int (cmpValue (FP.dcmp (FP.i2d g1) (FP.i2d (p3 + (1 : Int32)))) .l))])
    refine own_if X0 hx 43 (hb hby d7_38) (by decide) (by decide) (fun _ => ?_) (fun hc => absurd (show (cmpValue (FP.dcmp (FP.i2d g1) (FP.i2d (p3 + (1 : Int32)))) .l) = (0 : Int32) from own_dc (by rw [hg1, if_pos hc13])) (by first | exact hc | exact not_not_intro hc))
    show own_Go p e below _ s₁ (mkF m 43 #[.val (.ref a1), .val (.int p2), .val (.int p3), .val (.int p4)] [])
    refine own_by (fun t_ k_ => XS.iloadN X0.here hx rfl (hb hby d7_43) rfl k_) ?_
    show own_Go p e below _ s₁ (mkF m 44 #[.val (.ref a1), .val (.int p2), .val (.int p3), .val (.int p4)] [(.int p4)])
    refine own_by (fun t_ k_ => XS.iconst X0.here hx rfl (hb hby d7_44) k_) ?_
    show own_Go p e below _ s₁ (mkF m 45 #[.val (.ref a1), .val (.int p2), .val (.int p3), .val (.int p4)] [(.int (2 : Int32)), (.int p4)])
    refine own_icmp X0 hx 62 (hb hby d7_45) (by decide) (by decide) (fun (hc45 : p4 < (2 : Int32)) => ?_) (fun (hc45 : ¬ p4 < (2 : Int32)) => ?_)
    · show own_Go p e below _ s₁ (mkF m 62 #[.val (.ref a1), .val (.int p2), .val (.int p3), .val (.int p4)] [])
      refine own_by (fun t_ k_ => XS.aloadN X0.here hx rfl (hb hby d7_62) rfl rfl k_) ?_
      show own_Go p e below _ s₁ (mkF m 63 #[.val (.ref a1), .val (.int p2), .val (.int p3), .val (.int p4)] [(.ref a1)])
      refine own_by (fun t_ k_ => XS.iconst X0.here hx rfl (hb hby d7_63) k_) ?_
      show own_Go p e below _ s₁ (mkF m 64 #[.val (.ref a1), .val (.int p2), .val (.int p3), .val (.int p4)] [(.int (2 : Int32)), (.ref a1)])
      refine own_daload X0 hx hZ e0 V_a1 (v := (.double (FP.i2d g2))) 2 (by decide) rfl (hb hby d7_64) ?_
      show own_Go p e below _ s₁ (mkF m 65 #[.val (.ref a1), .val (.int p2), .val (.int p3), .val (.int p4)] [(.double (FP.i2d g2))])
      refine own_by (fun t_ k_ => XS.iloadN X0.here hx rfl (hb hby d7_65) rfl k_) ?_
      show own_Go p e below _ s₁ (mkF m 66 #[.val (.ref a1), .val (.int p2), .val (.int p3), .val (.int p4)] [(.int p3), (.double (FP.i2d g2))])
      refine own_by (fun t_ k_ => XS.iconst X0.here hx rfl (hb hby d7_66) k_) ?_
      show own_Go p e below _ s₁ (mkF m 67 #[.val (.ref a1), .val (.int p2), .val (.int p3), .val (.int p4)] [(.int (2 : Int32)), (.int p3), (.double (FP.i2d g2))])
      refine own_by (fun t_ k_ => XS.iadd X0.here hx rfl (hb hby d7_67) rfl k_) ?_
      show own_Go p e below _ s₁ (mkF m 68 #[.val (.ref a1), .val (.int p2), .val (.int p3), .val (.int p4)] [(.int (p3 + (2 : Int32))), (.double (FP.i2d g2))])
      refine own_by (fun t_ k_ => XS.i2dS X0.here hx rfl (hb hby d7_68) rfl rfl k_) ?_
      show own_Go p e below _ s₁ (mkF m 69 #[.val (.ref a1), .val (.int p2), .val (.int p3), .val (.int p4)] [(.double (FP.i2d (p3 + (2 : Int32)))), (.double (FP.i2d g2))])
      refine own_by (fun t_ k_ => XS.dcmpS X0.here hx rfl (hb hby d7_69) rfl rfl k_) ?_
      show own_Go p e below _ s₁ (mkF m 70 #[.val (.ref a1), .val (.int p2), .val (.int p3), .val (.int p4)] [(.int (cmpValue (FP.dcmp (FP.i2d g2) (FP.i2d (p3 + (2 : Int32)))) .l))])
      refine own_if X0 hx 75 (hb hby d7_70) (by decide) (by decide) (fun _ => ?_) (fun hc => absurd (show (cmpValue (FP.dcmp (FP.i2d g2) (FP.i2d (p3 + (2 : Int32)))) .l) = (0 : Int32) from own_dc (by rw [hg2, if_pos hc45])) (by first | exact hc | exact not_not_intro hc))
      show own_Go p e below _ s₁ (mkF m 75 #[.val (.ref a1), .val (.int p2), .val (.int p3), .val (.int p4)] [])
      refine own_by (fun t_ k_ => XS.iconst X0.here hx rfl (hb hby d7_75) k_) ?_
      show own_Go p e below _ s₁ (mkF m 76 #[.val (.ref a1), .val (.int p2), .val (.int p3), .val (.int p4)] [(.int (1 : Int32))])
      refine own_retZ X0 hx hlk Bd.returns (by decide) (hb hby d7_76) e0 (by decide) (by decide) ?_
      exact ⟨rfl, N0, rfl⟩
    · show own_Go p e below _ s₁ (mkF m 48 #[.val (.ref a1), .val (.int p2), .val (.int p3), .val (.int p4)] [])
      refine own_by (fun t_ k_ => XS.aloadN X0.here hx rfl (hb hby d7_48) rfl rfl k_) ?_
      show own_Go p e below _ s₁ (mkF m 49 #[.val (.ref a1), .val (.int p2), .val (.int p3), .val (.int p4)] [(.ref a1)])
      refine own_by (fun t_ k_ => XS.iconst X0.here hx rfl (hb hby d7_49) k_) ?_
      show own_Go p e below _ s₁ (mkF m 50 #[.val (.ref a1), .val (.int p2), .val (.int p3), .val (.int p4)] [(.int (2 : Int32)), (.ref a1)])
      refine own_daload X0 hx hZ e0 V_a1 (v := (.double (FP.i2d g2))) 2 (by decide) rfl (hb hby d7_50) ?_
      show own_Go p e below _ s₁ (mkF m 51 #[.val (.ref a1), .val (.int p2), .val (.int p3), .val (.int p4)] [(.double (FP.i2d g2))])
      refine own_by (fun t_ k_ => XS.iloadN X0.here hx rfl (hb hby d7_51) rfl k_) ?_
      show own_Go p e below _ s₁ (mkF m 52 #[.val (.ref a1), .val (.int p2), .val (.int p3), .val (.int p4)] [(.int p2), (.double (FP.i2d g2))])
      refine own_by (fun t_ k_ => XS.iconst X0.here hx rfl (hb hby d7_52) k_) ?_
      show own_Go p e below _ s₁ (mkF m 53 #[.val (.ref a1), .val (.int p2), .val (.int p3), .val (.int p4)] [(.int (2 : Int32)), (.int p2), (.double (FP.i2d g2))])
      refine own_by (fun t_ k_ => XS.iadd X0.here hx rfl (hb hby d7_53) rfl k_) ?_
      show own_Go p e below _ s₁ (mkF m 54 #[.val (.ref a1), .val (.int p2), .val (.int p3), .val (.int p4)] [(.int (p2 + (2 : Int32))), (.double (FP.i2d g2))])
      refine own_by (fun t_ k_ => XS.i2dS X0.here hx rfl (hb hby d7_54) rfl rfl k_) ?_
      show own_Go p e below _ s₁ (mkF m 55 #[.val (.ref a1), .val (.int p2), .val (.int p3), .val (.int p4)] [(.double (FP.i2d (p2 + (2 : Int32)))), (.double (FP.i2d g2))])
      refine own_by (fun t_ k_ => XS.dcmpS X0.here hx rfl (hb hby d7_55) rfl rfl k_) ?_
      show own_Go p e below _ s₁ (mkF m 56 #[.val (.ref a1), .val (.int p2), .val (.int p3), .val (.int p4)] [(.int (cmpValue (FP.dcmp (FP.i2d g2) (FP.i2d (p2 + (2 : Int32)))) .l))])
      refine own_if X0 hx 75 (hb hby d7_56) (by decide) (by decide) (fun _ => ?_) (fun hc => absurd (show (cmpValue (FP.dcmp (FP.i2d g2) (FP.i2d (p2 + (2 : Int32)))) .l) = (0 : Int32) from own_dc (by rw [hg2, if_neg hc45])) (by first | exact hc | exact not_not_intro hc))
      show own_Go p e below _ s₁ (mkF m 75 #[.val (.ref a1), .val (.int p2), .val (.int p3), .val (.int p4)] [])
      refine own_by (fun t_ k_ => XS.iconst X0.here hx rfl (hb hby d7_75) k_) ?_
      show own_Go p e below _ s₁ (mkF m 76 #[.val (.ref a1), .val (.int p2), .val (.int p3), .val (.int p4)] [(.int (1 : Int32))])
      refine own_retZ X0 hx hlk Bd.returns (by decide) (hb hby d7_76) e0 (by decide) (by decide) ?_
      exact ⟨rfl, N0, rfl⟩
  · show own_Go p e below _ s₁ (mkF m 16 #[.val (.ref a1), .val (.int p2), .val (.int p3), .val (.int p4)] [])
    refine own_by (fun t_ k_ => XS.aloadN X0.here hx rfl (hb hby d7_16) rfl rfl k_) ?_
    show own_Go p e below _ s₁ (mkF m 17 #[.val (.ref a1), .val (.int p2), .val (.int p3), .val (.int p4)] [(.ref a1)])
    refine own_by (fun t_ k_ => XS.iconst X0.here hx rfl (hb hby d7_17) k_) ?_
    show own_Go p e below _ s₁ (mkF m 18 #[.val (.ref a1), .val (.int p2), .val (.int p3), .val (.int p4)] [(.int (1 : Int32)), (.ref a1)])
    refine own_daload X0 hx hZ e0 V_a1 (v := (.double (FP.i2d g1))) 1 (by decide) rfl (hb hby d7_18) ?_
    show own_Go p e below _ s₁ (mkF m 19 #[.val (.ref a1), .val (.int p2), .val (.int p3), .val (.int p4)] [(.double (FP.i2d g1))])
    refine own_by (fun t_ k_ => XS.iloadN X0.here hx rfl (hb hby d7_19) rfl k_) ?_
    show own_Go p e below _ s₁ (mkF m 20 #[.val (.ref a1), .val (.int p2), .val (.int p3), .val (.int p4)] [(.int p2), (.double (FP.i2d g1))])
    refine own_by (fun t_ k_ => XS.iconst X0.here hx rfl (hb hby d7_20) k_) ?_
    show own_Go p e below _ s₁ (mkF m 21 #[.val (.ref a1), .val (.int p2), .val (.int p3), .val (.int p4)] [(.int (1 : Int32)), (.int p2), (.double (FP.i2d g1))])
    refine own_by (fun t_ k_ => XS.iadd X0.here hx rfl (hb hby d7_21) rfl k_) ?_
    show own_Go p e below _ s₁ (mkF m 22 #[.val (.ref a1), .val (.int p2), .val (.int p3), .val (.int p4)] [(.int (p2 + (1 : Int32))), (.double (FP.i2d g1))])
    refine own_by (fun t_ k_ => XS.i2dS X0.here hx rfl (hb hby d7_22) rfl rfl k_) ?_
    show own_Go p e below _ s₁ (mkF m 23 #[.val (.ref a1), .val (.int p2), .val (.int p3), .val (.int p4)] [(.double (FP.i2d (p2 + (1 : Int32)))), (.double (FP.i2d g1))])
    refine own_by (fun t_ k_ => XS.dcmpS X0.here hx rfl (hb hby d7_23) rfl rfl k_) ?_
    show own_Go p e below _ s₁ (mkF m 24 #[.val (.ref a1), .val (.int p2), .val (.int p3), .val (.int p4)] [(.int (cmpValue (FP.dcmp (FP.i2d g1) (FP.i2d (p2 + (1 : Int32)))) .l))])
    refine own_if X0 hx 43 (hb hby d7_24) (by decide) (by decide) (fun _ => ?_) (fun hc => absurd (show (cmpValue (FP.dcmp (FP.i2d g1) (FP.i2d (p2 + (1 : Int32)))) .l) = (0 : Int32) from own_dc (by rw [hg1, if_neg hc13])) (by first | exact hc | exact not_not_intro hc))
    show own_Go p e below _ s₁ (mkF m 43 #[.val (.ref a1), .val (.int p2), .val (.int p3), .val (.int p4)] [])
    refine own_by (fun t_ k_ => XS.iloadN X0.here hx rfl (hb hby d7_43) rfl k_) ?_
    show own_Go p e below _ s₁ (mkF m 44 #[.val (.ref a1), .val (.int p2), .val (.int p3), .val (.int p4)] [(.int p4)])
    refine own_by (fun t_ k_ => XS.iconst X0.here hx rfl (hb hby d7_44) k_) ?_
    show own_Go p e below _ s₁ (mkF m 45 #[.val (.ref a1), .val (.int p2), .val (.int p3), .val (.int p4)] [(.int (2 : Int32)), (.int p4)])
    refine own_icmp X0 hx 62 (hb hby d7_45) (by decide) (by decide) (fun (hc45 : p4 < (2 : Int32)) => ?_) (fun (hc45 : ¬ p4 < (2 : Int32)) => ?_)
    · show own_Go p e below _ s₁ (mkF m 62 #[.val (.ref a1), .val (.int p2), .val (.int p3), .val (.int p4)] [])
      refine own_by (fun t_ k_ => XS.aloadN X0.here hx rfl (hb hby d7_62) rfl rfl k_) ?_
      show own_Go p e below _ s₁ (mkF m 63 #[.val (.ref a1), .val (.int p2), .val (.int p3), .val (.int p4)] [(.ref a1)])
      refine own_by (fun t_ k_ => XS.iconst X0.here hx rfl (hb hby d7_63) k_) ?_
      show own_Go p e below _ s₁ (mkF m 64 #[.val (.ref a1), .val (.int p2), .val (.int p3), .val (.int p4)] [(.int (2 : Int32)), (.ref a1)])
      refine own_daload X0 hx hZ e0 V_a1 (v := (.double (FP.i2d g2))) 2 (by decide) rfl (hb hby d7_64) ?_
      show own_Go p e below _ s₁ (mkF m 65 #[.val (.ref a1), .val (.int p2), .val (.int p3), .val (.int p4)] [(.double (FP.i2d g2))])
      refine own_by (fun t_ k_ => XS.iloadN X0.here hx rfl (hb hby d7_65) rfl k_) ?_
      show own_Go p e below _ s₁ (mkF m 66 #[.val (.ref a1), .val (.int p2), .val (.int p3), .val (.int p4)] [(.int p3), (.double (FP.i2d g2))])
      refine own_by (fun t_ k_ => XS.iconst X0.here hx rfl (hb hby d7_66) k_) ?_
      show own_Go p e below _ s₁ (mkF m 67 #[.val (.ref a1), .val (.int p2), .val (.int p3), .val (.int p4)] [(.int (2 : Int32)), (.int p3), (.double (FP.i2d g2))])
      refine own_by (fun t_ k_ => XS.iadd X0.here hx rfl (hb hby d7_67) rfl k_) ?_
      show own_Go p e below _ s₁ (mkF m 68 #[.val (.ref a1), .val (.int p2), .val (.int p3), .val (.int p4)] [(.int (p3 + (2 : Int32))), (.double (FP.i2d g2))])
      refine own_by (fun t_ k_ => XS.i2dS X0.here hx rfl (hb hby d7_68) rfl rfl k_) ?_
      show own_Go p e below _ s₁ (mkF m 69 #[.val (.ref a1), .val (.int p2), .val (.int p3), .val (.int p4)] [(.double (FP.i2d (p3 + (2 : Int32)))), (.double (FP.i2d g2))])
      refine own_by (fun t_ k_ => XS.dcmpS X0.here hx rfl (hb hby d7_69) rfl rfl k_) ?_
      show own_Go p e below _ s₁ (mkF m 70 #[.val (.ref a1), .val (.int p2), .val (.int p3), .val (.int p4)] [(.int (cmpValue (FP.dcmp (FP.i2d g2) (FP.i2d (p3 + (2 : Int32)))) .l))])
      refine own_if X0 hx 75 (hb hby d7_70) (by decide) (by decide) (fun _ => ?_) (fun hc => absurd (show (cmpValue (FP.dcmp (FP.i2d g2) (FP.i2d (p3 + (2 : Int32)))) .l) = (0 : Int32) from own_dc (by rw [hg2, if_pos hc45])) (by first | exact hc | exact not_not_intro hc))
      show own_Go p e below _ s₁ (mkF m 75 #[.val (.ref a1), .val (.int p2), .val (.int p3), .val (.int p4)] [])
      refine own_by (fun t_ k_ => XS.iconst X0.here hx rfl (hb hby d7_75) k_) ?_
      show own_Go p e below _ s₁ (mkF m 76 #[.val (.ref a1), .val (.int p2), .val (.int p3), .val (.int p4)] [(.int (1 : Int32))])
      refine own_retZ X0 hx hlk Bd.returns (by decide) (hb hby d7_76) e0 (by decide) (by decide) ?_
      exact ⟨rfl, N0, rfl⟩
    · show own_Go p e below _ s₁ (mkF m 48 #[.val (.ref a1), .val (.int p2), .val (.int p3), .val (.int p4)] [])
      refine own_by (fun t_ k_ => XS.aloadN X0.here hx rfl (hb hby d7_48) rfl rfl k_) ?_
      show own_Go p e below _ s₁ (mkF m 49 #[.val (.ref a1), .val (.int p2), .val (.int p3), .val (.int p4)] [(.ref a1)])
      refine own_by (fun t_ k_ => XS.iconst X0.here hx rfl (hb hby d7_49) k_) ?_
      show own_Go p e below _ s₁ (mkF m 50 #[.val (.ref a1), .val (.int p2), .val (.int p3), .val (.int p4)] [(.int (2 : Int32)), (.ref a1)])
      refine own_daload X0 hx hZ e0 V_a1 (v := (.double (FP.i2d g2))) 2 (by decide) rfl (hb hby d7_50) ?_
      show own_Go p e below _ s₁ (mkF m 51 #[.val (.ref a1), .val (.int p2), .val (.int p3), .val (.int p4)] [(.double (FP.i2d g2))])
      refine own_by (fun t_ k_ => XS.iloadN X0.here hx rfl (hb hby d7_51) rfl k_) ?_
      show own_Go p e below _ s₁ (mkF m 52 #[.val (.ref a1), .val (.int p2), .val (.int p3), .val (.int p4)] [(.int p2), (.double (FP.i2d g2))])
      refine own_by (fun t_ k_ => XS.iconst X0.here hx rfl (hb hby d7_52) k_) ?_
      show own_Go p e below _ s₁ (mkF m 53 #[.val (.ref a1), .val (.int p2), .val (.int p3), .val (.int p4)] [(.int (2 : Int32)), (.int p2), (.double (FP.i2d g2))])
      refine own_by (fun t_ k_ => XS.iadd X0.here hx rfl (hb hby d7_53) rfl k_) ?_
      show own_Go p e below _ s₁ (mkF m 54 #[.val (.ref a1), .val (.int p2), .val (.int p3), .val (.int p4)] [(.int (p2 + (2 : Int32))), (.double (FP.i2d g2))])
      refine own_by (fun t_ k_ => XS.i2dS X0.here hx rfl (hb hby d7_54) rfl rfl k_) ?_
      show own_Go p e below _ s₁ (mkF m 55 #[.val (.ref a1), .val (.int p2), .val (.int p3), .val (.int p4)] [(.double (FP.i2d (p2 + (2 : Int32)))), (.double (FP.i2d g2))])
      refine own_by (fun t_ k_ => XS.dcmpS X0.here hx rfl (hb hby d7_55) rfl rfl k_) ?_
      show own_Go p e below _ s₁ (mkF m 56 #[.val (.ref a1), .val (.int p2), .val (.int p3), .val (.int p4)] [(.int (cmpValue (FP.dcmp (FP.i2d g2) (FP.i2d (p2 + (2 : Int32)))) .l))])
      refine own_if X0 hx 75 (hb hby d7_56) (by decide) (by decide) (fun _ => ?_) (fun hc => absurd (show (cmpValue (FP.dcmp (FP.i2d g2) (FP.i2d (p2 + (2 : Int32)))) .l) = (0 : Int32) from own_dc (by rw [hg2, if_neg hc45])) (by first | exact hc | exact not_not_intro hc))
      show own_Go p e below _ s₁ (mkF m 75 #[.val (.ref a1), .val (.int p2), .val (.int p3), .val (.int p4)] [])
      refine own_by (fun t_ k_ => XS.iconst X0.here hx rfl (hb hby d7_75) k_) ?_
      show own_Go p e below _ s₁ (mkF m 76 #[.val (.ref a1), .val (.int p2), .val (.int p3), .val (.int p4)] [(.int (1 : Int32))])
      refine own_retZ X0 hx hlk Bd.returns (by decide) (hb hby d7_76) e0 (by decide) (by decide) ?_
      exact ⟨rfl, N0, rfl⟩
theorem ef_6 (m : MethodId) (a1 : Addr) (p2 : Int32) (p3 : Int32) (p4 : Int32) : entryFrame m #[(.ref a1), (.int p2), (.int p3), (.int p4)] 4 = mkF m 0 #[.val (.ref a1), .val (.int p2), .val (.int p3), .val (.int p4)] [] := by first | (simp [entryFrame, mkF, argsToLocals, Value.category]; done) | rfl
set_option maxRecDepth 65536 in
set_option maxHeartbeats 40000000 in
theorem rm6 (l : Launch) (Z : State) (a0 : Array Value) (hw : ∀ d ∈ tables_1, d.before a0 Z = true) (ws : List Jvm.Cond) (a1 : Addr) (p2 : Int32) (p3 : Int32) (p4 : Int32) (b1 : Addr) (b2 : Addr) (b3 : Addr) (b4 : Addr) (b5 : Addr) (b6 : Addr) (b7 : Addr) (b8 : Addr) (g00 : Int32) (g01 : Int32) (g02 : Int32) (g10 : Int32) (g11 : Int32) (g12 : Int32) (g20 : Int32) (g21 : Int32) (g22 : Int32) (g30 : Int32) (g31 : Int32) (g32 : Int32) (g40 : Int32) (g41 : Int32) (g42 : Int32) (g50 : Int32) (g51 : Int32) (g52 : Int32) (g60 : Int32) (g61 : Int32) (g62 : Int32) (g70 : Int32) (g71 : Int32) (g72 : Int32) (h0 : Heap) (n0 : Nat) (Z0 : n0 ≤ h0.size) (F_leave : Fld Z h0 a1 "com/example/wayfold/wayfold/engine/DayTiming$Timeline" "leave" "[D" (.ref b1)) (F_interest : Fld Z h0 a1 "com/example/wayfold/wayfold/engine/DayTiming$Timeline" "interest" "[D" (.ref b2)) (F_travel : Fld Z h0 a1 "com/example/wayfold/wayfold/engine/DayTiming$Timeline" "travel" "[D" (.ref b3)) (F_visit : Fld Z h0 a1 "com/example/wayfold/wayfold/engine/DayTiming$Timeline" "visit" "[D" (.ref b4)) (F_waiting : Fld Z h0 a1 "com/example/wayfold/wayfold/engine/DayTiming$Timeline" "waiting" "[D" (.ref b5)) (F_load : Fld Z h0 a1 "com/example/wayfold/wayfold/engine/DayTiming$Timeline" "load" "[D" (.ref b6)) (F_latest : Fld Z h0 a1 "com/example/wayfold/wayfold/engine/DayTiming$Timeline" "latest" "[D" (.ref b7)) (F_best : Fld Z h0 a1 "com/example/wayfold/wayfold/engine/DayTiming$Timeline" "best" "[D" (.ref b8)) (V_b1 : own_Arr Z h0 b1 .double [.double (FP.i2d g00), .double (FP.i2d g01), .double (FP.i2d g02)]) (V_b2 : own_Arr Z h0 b2 .double [.double (FP.i2d g10), .double (FP.i2d g11), .double (FP.i2d g12)]) (V_b3 : own_Arr Z h0 b3 .double [.double (FP.i2d g20), .double (FP.i2d g21), .double (FP.i2d g22)]) (V_b4 : own_Arr Z h0 b4 .double [.double (FP.i2d g30), .double (FP.i2d g31), .double (FP.i2d g32)]) (V_b5 : own_Arr Z h0 b5 .double [.double (FP.i2d g40), .double (FP.i2d g41), .double (FP.i2d g42)]) (V_b6 : own_Arr Z h0 b6 .double [.double (FP.i2d g50), .double (FP.i2d g51), .double (FP.i2d g52)]) (V_b7 : own_Arr Z h0 b7 .double [.double (FP.i2d g60), .double (FP.i2d g61), .double (FP.i2d g62)]) (V_b8 : own_Arr Z h0 b8 .double [.double (FP.i2d g70), .double (FP.i2d g71), .double (FP.i2d g72)]) (hg00 : g00 = p2) (hg01 : g01 = if p4 < 1 then p3 + 1 else p2 + 1) (hg02 : g02 = if p4 < 2 then p3 + 2 else p2 + 2) (hg10 : g10 = (p2 + (3 : Int32))) (hg11 : g11 = if p4 < 1 then (p3 - (3 : Int32)) + 1 else (p2 + (3 : Int32)) + 1) (hg12 : g12 = if p4 < 2 then (p3 - (3 : Int32)) + 2 else (p2 + (3 : Int32)) + 2) (hg20 : g20 = (p2 + (6 : Int32))) (hg21 : g21 = if p4 < 1 then (p3 - (6 : Int32)) + 1 else (p2 + (6 : Int32)) + 1) (hg22 : g22 = if p4 < 2 then (p3 - (6 : Int32)) + 2 else (p2 + (6 : Int32)) + 2) (hg30 : g30 = (p2 + (9 : Int32))) (hg31 : g31 = if p4 < 1 then (p3 - (9 : Int32)) + 1 else (p2 + (9 : Int32)) + 1) (hg32 : g32 = if p4 < 2 then (p3 - (9 : Int32)) + 2 else (p2 + (9 : Int32)) + 2) (hg40 : g40 = (p2 + (12 : Int32))) (hg41 : g41 = if p4 < 1 then (p3 - (12 : Int32)) + 1 else (p2 + (12 : Int32)) + 1) (hg42 : g42 = if p4 < 2 then (p3 - (12 : Int32)) + 2 else (p2 + (12 : Int32)) + 2) (hg50 : g50 = (p2 + (15 : Int32))) (hg51 : g51 = if p4 < 1 then (p3 - (15 : Int32)) + 1 else (p2 + (15 : Int32)) + 1) (hg52 : g52 = if p4 < 2 then (p3 - (15 : Int32)) + 2 else (p2 + (15 : Int32)) + 2) (hg60 : g60 = (p2 + (18 : Int32))) (hg61 : g61 = if p4 < 1 then (p3 - (18 : Int32)) + 1 else (p2 + (18 : Int32)) + 1) (hg62 : g62 = if p4 < 2 then (p3 - (18 : Int32)) + 2 else (p2 + (18 : Int32)) + 2) (hg70 : g70 = (p2 + (21 : Int32))) (hg71 : g71 = if p4 < 1 then (p3 - (21 : Int32)) + 1 else (p2 + (21 : Int32)) + 1) (hg72 : g72 = if p4 < 2 then (p3 - (21 : Int32)) + 2 else (p2 + (21 : Int32)) + 2) :
    MetFree l (⟨"com/example/wayfold/wayfold/engine/TimelineCopyPinLaw", "okAll", "(Lcom/example/wayfold/wayfold/engine/DayTiming$Timeline;III)Z"⟩ : MethodName) (head1 (Jvm.Cond.code (⟨"com/example/wayfold/wayfold/engine/TimelineCopyPinLaw", "okAll", "(Lcom/example/wayfold/wayfold/engine/DayTiming$Timeline;III)Z"⟩ : MethodName) method_5_code 4 (some .boolean) :: ws) ({ frames := 1, cells := 0, slots := 0, locals := 15 } : Room)) (fun a U => a = #[(.ref a1), (.int p2), (.int p3), (.int p4)] ∧ Z.Warmed39 U.vm ∧ U.heap = h0) (fun _ _ _ _ _ => True) (fun _ U o U' => ∃ v L, o = .returned v ∧ QT h0 n0 v U'.heap L ∧ FrameEnd U o U' L ({ frames := 1, cells := 0, slots := 0, locals := 15 } : Room).cells ({ frames := 1, cells := 0, slots := 0, locals := 15 } : Room).slots) := by
  refine MetFree.of_bodySF (plainFor_of_name pn_0) hisR ?_
  intro p e s m args below meth c s₁ Bd hml0 hP hK
  obtain ⟨rfl, hZ, hh⟩ := hP
  have hx := Bd.exec
  have hby := Bd.bytes
  have hml : c.maxLocals = 4 := hml0
  have hown : s.vm.findClass "com/example/wayfold/wayfold/engine/TimelineCopyPinLaw" = some m.cls := findClass_of_methodNamed Bd.named
  have hnm := (name_of_methodNamed Bd.named Bd.method).1
  have hlk : meth.locks = false := BodyLoose.notSynchronized Bd
  have X0 : Stand p l e ({ frames := 1, cells := 0, slots := 0, locals := 15 } : Room) s m #[(.ref a1), (.int p2), (.int p3), (.int p4)] below meth c s₁ [] 0 0 := Stand.of_body Bd
  have e0 : s₁.heap = h0 := by rw [← hh, Bd.state]; rfl
  have N0 := Fr.nil n0
  refine own_start (Q := QT h0 n0) (ef_6 m a1 p2 p3 p4) ?_
  show own_Go p e below _ s₁ (mkF m 0 #[.val (.ref a1), .val (.int p2), .val (.int p3), .val (.int p4)] [])
  refine own_by (fun t_ k_ => XS.aloadN X0.here hx rfl (hb hby d6_0) rfl rfl k_) ?_
  show own_Go p e below _ s₁ (mkF m 1 #[.val (.ref a1), .val (.int p2), .val (.int p3), .val (.int p4)] [(.ref a1)])
  refine own_getF X0 hx hZ hown (own_w hw 38 rfl) Via.refl e0 F_leave (hb hby d6_1) ?_
  intro T1 X1 e1
  show own_Go p e below _ T1 (mkF m 4 #[.val (.ref a1), .val (.int p2), .val (.int p3), .val (.int p4)] [(.ref b1)])
  refine own_by (fun t_ k_ => XS.iloadN X1.here hx rfl (hb hby d6_4) rfl k_) ?_
  show own_Go p e below _ T1 (mkF m 5 #[.val (.ref a1), .val (.int p2), .val (.int p3), .val (.int p4)] [(.int p2), (.ref b1)])
  refine own_by (fun t_ k_ => XS.iloadN X1.here hx rfl (hb hby d6_5) rfl k_) ?_
  show own_Go p e below _ T1 (mkF m 6 #[.val (.ref a1), .val (.int p2), .val (.int p3), .val (.int p4)] [(.int p3), (.int p2), (.ref b1)])
  refine own_by (fun t_ k_ => XS.iloadN X1.here hx rfl (hb hby d6_6) rfl k_) ?_
  show own_Go p e below _ T1 (mkF m 7 #[.val (.ref a1), .val (.int p2), .val (.int p3), .val (.int p4)] [(.int p4), (.int p3), (.int p2), (.ref b1)])
  refine own_callS (W := 0) X1 hx hZ (y := (⟨"com/example/wayfold/wayfold/engine/TimelineCopyPinLaw", "ok", "([DIII)Z"⟩ : MethodName)) hown (own_w hw 62 rfl) (own_w hw 63 rfl) (own_w hw 36 rfl) (own_w hw 64 rfl) (by decide) (by rw [hml]; rfl) (argsL := [(.ref b1), (.int p2), (.int p3), (.int p4)]) pd_7 rfl (rm7 l Z a0 hw [] b1 p2 p3 p4 g00 g01 g02 h0 n0 Z0 V_b1 hg00 hg01 hg02) (by decide) (by decide) (Nat.le_of_eq rfl) (by decide) (by decide) (rest := []) e1 rfl (hb hby d6_7) ?_
  intro v2 T2 L2 X2 hQ2
  obtain ⟨rfl, N2q, e2⟩ := hQ2
  have N2 := Fr.app N0 N2q
  show own_Go p e below _ T2 (mkF m 10 #[.val (.ref a1), .val (.int p2), .val (.int p3), .val (.int p4)] [(.int (1 : Int32))])
  refine own_if X2 hx 148 (hb hby d6_10) (by decide) (by decide) (fun hc => absurd (show ¬ (1 : Int32) = (0 : Int32) from by decide) (by first | exact hc | exact not_not_intro hc)) (fun _ => ?_)
  show own_Go p e below _ T2 (mkF m 13 #[.val (.ref a1), .val (.int p2), .val (.int p3), .val (.int p4)] [])
  refine own_by (fun t_ k_ => XS.aloadN X2.here hx rfl (hb hby d6_13) rfl rfl k_) ?_
  show own_Go p e below _ T2 (mkF m 14 #[.val (.ref a1), .val (.int p2), .val (.int p3), .val (.int p4)] [(.ref a1)])
  refine own_getF X2 hx hZ hown (own_w hw 42 rfl) Via.refl e2 F_interest (hb hby d6_14) ?_
  intro T3 X3 e3
  show own_Go p e below _ T3 (mkF m 17 #[.val (.ref a1), .val (.int p2), .val (.int p3), .val (.int p4)] [(.ref b2)])
  refine own_by (fun t_ k_ => XS.iloadN X3.here hx rfl (hb hby d6_17) rfl k_) ?_
  show own_Go p e below _ T3 (mkF m 18 #[.val (.ref a1), .val (.int p2), .val (.int p3), .val (.int p4)] [(.int p2), (.ref b2)])
  refine own_by (fun t_ k_ => XS.iconst X3.here hx rfl (hb hby d6_18) k_) ?_
  show own_Go p e below _ T3 (mkF m 19 #[.val (.ref a1), .val (.int p2), .val (.int p3), .val (.int p4)] [(.int (3 : Int32)), (.int p2), (.ref b2)])
  refine own_by (fun t_ k_ => XS.iadd X3.here hx rfl (hb hby d6_19) rfl k_) ?_
  show own_Go p e below _ T3 (mkF m 20 #[.val (.ref a1), .val (.int p2), .val (.int p3), .val (.int p4)] [(.int (p2 + (3 : Int32))), (.ref b2)])
  refine own_by (fun t_ k_ => XS.iloadN X3.here hx rfl (hb hby d6_20) rfl k_) ?_
  show own_Go p e below _ T3 (mkF m 21 #[.val (.ref a1), .val (.int p2), .val (.int p3), .val (.int p4)] [(.int p3), (.int (p2 + (3 : Int32))), (.ref b2)])
  refine own_by (fun t_ k_ => XS.iconst X3.here hx rfl (hb hby d6_21) k_) ?_
  show own_Go p e below _ T3 (mkF m 22 #[.val (.ref a1), .val (.int p2), .val (.int p3), .val (.int p4)] [(.int (3 : Int32)), (.int p3), (.int (p2 + (3 : Int32))), (.ref b2)])
  refine own_by (fun t_ k_ => XS.isub X3.here hx rfl (hb hby d6_22) rfl k_) ?_
  show own_Go p e below _ T3 (mkF m 23 #[.val (.ref a1), .val (.int p2), .val (.int p3), .val (.int p4)] [(.int (p3 - (3 : Int32))), (.int (p2 + (3 : Int32))), (.ref b2)])
  refine own_by (fun t_ k_ => XS.iloadN X3.here hx rfl (hb hby d6_23) rfl k_) ?_
  show own_Go p e below _ T3 (mkF m 24 #[.val (.ref a1), .val (.int p2), .val (.int p3), .val (.int p4)] [(.int p4), (.int (p3 - (3 : Int32))), (.int (p2 + (3 : Int32))), (.ref b2)])
  refine own_callS (W := 0) X3 hx hZ (y := (⟨"com/example/wayfold/wayfold/engine/TimelineCopyPinLaw", "ok", "([DIII)Z"⟩ : MethodName)) hown (own_w hw 62 rfl) (own_w hw 63 rfl) (own_w hw 36 rfl) (own_w hw 64 rfl) (by decide) (by rw [hml]; rfl) (argsL := [(.ref b2), (.int (p2 + (3 : Int32))), (.int (p3 - (3 : Int32))), (.int p4)]) pd_7 rfl (rm7 l Z a0 hw [] b2 (p2 + (3 : Int32)) (p3 - (3 : Int32)) p4 g10 g11 g12 h0 n0 Z0 V_b2 hg10 hg11 hg12) (by decide) (by decide) (Nat.le_of_eq rfl) (by decide) (by decide) (rest := []) e3 rfl (hb hby d6_24) ?_
  intro v4 T4 L4 X4 hQ4
  obtain ⟨rfl, N4q, e4⟩ := hQ4
  have N4 := Fr.app N2 N4q
  show own_Go p e below _ T4 (mkF m 27 #[.val (.ref a1), .val (.int p2), .val (.int p3), .val (.int p4)] [(.int (1 : Int32))])
  refine own_if X4 hx 148 (hb hby d6_27) (by decide) (by decide) (fun hc => absurd (show ¬ (1 : Int32) = (0 : Int32) from by decide) (by first | exact hc | exact not_not_intro hc)) (fun _ => ?_)
  show own_Go p e below _ T4 (mkF m 30 #[.val (.ref a1), .val (.int p2), .val (.int p3), .val (.int p4)] [])
  refine own_by (fun t_ k_ => XS.aloadN X4.here hx rfl (hb hby d6_30) rfl rfl k_) ?_
  show own_Go p e below _ T4 (mkF m 31 #[.val (.ref a1), .val (.int p2), .val (.int p3), .val (.int p4)] [(.ref a1)])
  refine own_getF X4 hx hZ hown (own_w hw 43 rfl) Via.refl e4 F_travel (hb hby d6_31) ?_
  intro T5 X5 e5
  show own_Go p e below _ T5 (mkF m 34 #[.val (.ref a1), .val (.int p2), .val (.int p3), .val (.int p4)] [(.ref b3)])
  refine own_by (fun t_ k_ => XS.iloadN X5.here hx rfl (hb hby d6_34) rfl k_) ?_
  show own_Go p e below _ T5 (mkF m 35 #[.val (.ref a1), .val (.int p2), .val (.int p3), .val (.int p4)] [(.int p2), (.ref b3)])
  refine own_by (fun t_ k_ => XS.bipush X5.here hx rfl (hb hby d6_35) k_) ?_
  show own_Go p e below _ T5 (mkF m 37 #[.val (.ref a1), .val (.int p2), .val (.int p3), .val (.int p4)] [(.int (6 : Int32)), (.int p2), (.ref b3)])
  refine own_by (fun t_ k_ => XS.iadd X5.here hx rfl (hb hby d6_37) rfl k_) ?_
  show own_Go p e below _ T5 (mkF m 38 #[.val (.ref a1), .val (.int p2), .val (.int p3), .val (.int p4)] [(.int (p2 + (6 : Int32))), (.ref b3)])
  refine own_by (fun t_ k_ => XS.iloadN X5.here hx rfl (hb hby d6_38) rfl k_) ?_
  show own_Go p e below _ T5 (mkF m 39 #[.val (.ref a1), .val (.int p2), .val (.int p3), .val (.int p4)] [(.int p3), (.int (p2 + (6 : Int32))), (.ref b3)])
  refine own_by (fun t_ k_ => XS.bipush X5.here hx rfl (hb hby d6_39) k_) ?_
  show own_Go p e below _ T5 (mkF m 41 #[.val (.ref a1), .val (.int p2), .val (.int p3), .val (.int p4)] [(.int (6 : Int32)), (.int p3), (.int (p2 + (6 : Int32))), (.ref b3)])
  refine own_by (fun t_ k_ => XS.isub X5.here hx rfl (hb hby d6_41) rfl k_) ?_
  show own_Go p e below _ T5 (mkF m 42 #[.val (.ref a1), .val (.int p2), .val (.int p3), .val (.int p4)] [(.int (p3 - (6 : Int32))), (.int (p2 + (6 : Int32))), (.ref b3)])
  refine own_by (fun t_ k_ => XS.iloadN X5.here hx rfl (hb hby d6_42) rfl k_) ?_
  show own_Go p e below _ T5 (mkF m 43 #[.val (.ref a1), .val (.int p2), .val (.int p3), .val (.int p4)] [(.int p4), (.int (p3 - (6 : Int32))), (.int (p2 + (6 : Int32))), (.ref b3)])
  refine own_callS (W := 0) X5 hx hZ (y := (⟨"com/example/wayfold/wayfold/engine/TimelineCopyPinLaw", "ok", "([DIII)Z"⟩ : MethodName)) hown (own_w hw 62 rfl) (own_w hw 63 rfl) (own_w hw 36 rfl) (own_w hw 64 rfl) (by decide) (by rw [hml]; rfl) (argsL := [(.ref b3), (.int (p2 + (6 : Int32))), (.int (p3 - (6 : Int32))), (.int p4)]) pd_7 rfl (rm7 l Z a0 hw [] b3 (p2 + (6 : Int32)) (p3 - (6 : Int32)) p4 g20 g21 g22 h0 n0 Z0 V_b3 hg20 hg21 hg22) (by decide) (by decide) (Nat.le_of_eq rfl) (by decide) (by decide) (rest := []) e5 rfl (hb hby d6_43) ?_
  intro v6 T6 L6 X6 hQ6
  obtain ⟨rfl, N6q, e6⟩ := hQ6
  have N6 := Fr.app N4 N6q
  show own_Go p e below _ T6 (mkF m 46 #[.val (.ref a1), .val (.int p2), .val (.int p3), .val (.int p4)] [(.int (1 : Int32))])
  refine own_if X6 hx 148 (hb hby d6_46) (by decide) (by decide) (fun hc => absurd (show ¬ (1 : Int32) = (0 : Int32) from by decide) (by first | exact hc | exact not_not_intro hc)) (fun _ => ?_)
  show own_Go p e below _ T6 (mkF m 49 #[.val (.ref a1), .val (.int p2), .val (.int p3), .val (.int p4)] [])
  refine own_by (fun t_ k_ => XS.aloadN X6.here hx rfl (hb hby d6_49) rfl rfl k_) ?_
  show own_Go p e below _ T6 (mkF m 50 #[.val (.ref a1), .val (.int p2), .val (.int p3), .val (.int p4)] [(.ref a1)])
  refine own_getF X6 hx hZ hown (own_w hw 44 rfl) Via.refl e6 F_visit (hb hby d6_50) ?_
  intro T7 X7 e7
  show own_Go p e below _ T7 (mkF m 53 #[.val (.ref a1), .val (.int p2), .val (.int p3), .val (.int p4)] [(.ref b4)])
  refine own_by (fun t_ k_ => XS.iloadN X7.here hx rfl (hb hby d6_53) rfl k_) ?_
  show own_Go p e below _ T7 (mkF m 54 #[.val (.ref a1), .val (.int p2), .val (.int p3), .val (.int p4)] [(.int p2), (.ref b4)])
  refine own_by (fun t_ k_ => XS.bipush X7.here hx rfl (hb hby d6_54) k_) ?_
  show own_Go p e below _ T7 (mkF m 56 #[.val (.ref a1), .val (.int p2), .val (.int p3), .val (.int p4)] [(.int (9 : Int32)), (.int p2), (.ref b4)])
  refine own_by (fun t_ k_ => XS.iadd X7.here hx rfl (hb hby d6_56) rfl k_) ?_
  show own_Go p e below _ T7 (mkF m 57 #[.val (.ref a1), .val (.int p2), .val (.int p3), .val (.int p4)] [(.int (p2 + (9 : Int32))), (.ref b4)])
  refine own_by (fun t_ k_ => XS.iloadN X7.here hx rfl (hb hby d6_57) rfl k_) ?_
  show own_Go p e below _ T7 (mkF m 58 #[.val (.ref a1), .val (.int p2), .val (.int p3), .val (.int p4)] [(.int p3), (.int (p2 + (9 : Int32))), (.ref b4)])
  refine own_by (fun t_ k_ => XS.bipush X7.here hx rfl (hb hby d6_58) k_) ?_
  show own_Go p e below _ T7 (mkF m 60 #[.val (.ref a1), .val (.int p2), .val (.int p3), .val (.int p4)] [(.int (9 : Int32)), (.int p3), (.int (p2 + (9 : Int32))), (.ref b4)])
  refine own_by (fun t_ k_ => XS.isub X7.here hx rfl (hb hby d6_60) rfl k_) ?_
  show own_Go p e below _ T7 (mkF m 61 #[.val (.ref a1), .val (.int p2), .val (.int p3), .val (.int p4)] [(.int (p3 - (9 : Int32))), (.int (p2 + (9 : Int32))), (.ref b4)])
  refine own_by (fun t_ k_ => XS.iloadN X7.here hx rfl (hb hby d6_61) rfl k_) ?_
  show own_Go p e below _ T7 (mkF m 62 #[.val (.ref a1), .val (.int p2), .val (.int p3), .val (.int p4)] [(.int p4), (.int (p3 - (9 : Int32))), (.int (p2 + (9 : Int32))), (.ref b4)])
  refine own_callS (W := 0) X7 hx hZ (y := (⟨"com/example/wayfold/wayfold/engine/TimelineCopyPinLaw", "ok", "([DIII)Z"⟩ : MethodName)) hown (own_w hw 62 rfl) (own_w hw 63 rfl) (own_w hw 36 rfl) (own_w hw 64 rfl) (by decide) (by rw [hml]; rfl) (argsL := [(.ref b4), (.int (p2 + (9 : Int32))), (.int (p3 - (9 : Int32))), (.int p4)]) pd_7 rfl (rm7 l Z a0 hw [] b4 (p2 + (9 : Int32)) (p3 - (9 : Int32)) p4 g30 g31 g32 h0 n0 Z0 V_b4 hg30 hg31 hg32) (by decide) (by decide) (Nat.le_of_eq rfl) (by decide) (by decide) (rest := []) e7 rfl (hb hby d6_62) ?_
  intro v8 T8 L8 X8 hQ8
  obtain ⟨rfl, N8q, e8⟩ := hQ8
  have N8 := Fr.app N6 N8q
  show own_Go p e below _ T8 (mkF m 65 #[.val (.ref a1), .val (.int p2), .val (.int p3), .val (.int p4)] [(.int (1 : Int32))])
  refine own_if X8 hx 148 (hb hby d6_65) (by decide) (by decide) (fun hc => absurd (show ¬ (1 : Int32) = (0 : Int32) from by decide) (by first | exact hc | exact not_not_intro hc)) (fun _ => ?_)
  show own_Go p e below _ T8 (mkF m 68 #[.val (.ref a1), .val (.int p2), .val (.int p3), .val (.int p4)] [])
  refine own_by (fun t_ k_ => XS.aloadN X8.here hx rfl (hb hby d6_68) rfl rfl k_) ?_
  show own_Go p e below _ T8 (mkF m 69 #[.val (.ref a1), .val (.int p2), .val (.int p3), .val (.int p4)] [(.ref a1)])
  refine own_getF X8 hx hZ hown (own_w hw 45 rfl) Via.refl e8 F_waiting (hb hby d6_69) ?_
  intro T9 X9 e9
  show own_Go p e below _ T9 (mkF m 72 #[.val (.ref a1), .val (.int p2), .val (.int p3), .val (.int p4)] [(.ref b5)])
  refine own_by (fun t_ k_ => XS.iloadN X9.here hx rfl (hb hby d6_72) rfl k_) ?_
  show own_Go p e below _ T9 (mkF m 73 #[.val (.ref a1), .val (.int p2), .val (.int p3), .val (.int p4)] [(.int p2), (.ref b5)])
  refine own_by (fun t_ k_ => XS.bipush X9.here hx rfl (hb hby d6_73) k_) ?_
  show own_Go p e below _ T9 (mkF m 75 #[.val (.ref a1), .val (.int p2), .val (.int p3), .val (.int p4)] [(.int (12 : Int32)), (.int p2), (.ref b5)])
  refine own_by (fun t_ k_ => XS.iadd X9.here hx rfl (hb hby d6_75) rfl k_) ?_
  show own_Go p e below _ T9 (mkF m 76 #[.val (.ref a1), .val (.int p2), .val (.int p3), .val (.int p4)] [(.int (p2 + (12 : Int32))), (.ref b5)])
  refine own_by (fun t_ k_ => XS.iloadN X9.here hx rfl (hb hby d6_76) rfl k_) ?_
  show own_Go p e below _ T9 (mkF m 77 #[.val (.ref a1), .val (.int p2), .val (.int p3), .val (.int p4)] [(.int p3), (.int (p2 + (12 : Int32))), (.ref b5)])
  refine own_by (fun t_ k_ => XS.bipush X9.here hx rfl (hb hby d6_77) k_) ?_
  show own_Go p e below _ T9 (mkF m 79 #[.val (.ref a1), .val (.int p2), .val (.int p3), .val (.int p4)] [(.int (12 : Int32)), (.int p3), (.int (p2 + (12 : Int32))), (.ref b5)])
  refine own_by (fun t_ k_ => XS.isub X9.here hx rfl (hb hby d6_79) rfl k_) ?_
  show own_Go p e below _ T9 (mkF m 80 #[.val (.ref a1), .val (.int p2), .val (.int p3), .val (.int p4)] [(.int (p3 - (12 : Int32))), (.int (p2 + (12 : Int32))), (.ref b5)])
  refine own_by (fun t_ k_ => XS.iloadN X9.here hx rfl (hb hby d6_80) rfl k_) ?_
  show own_Go p e below _ T9 (mkF m 81 #[.val (.ref a1), .val (.int p2), .val (.int p3), .val (.int p4)] [(.int p4), (.int (p3 - (12 : Int32))), (.int (p2 + (12 : Int32))), (.ref b5)])
  refine own_callS (W := 0) X9 hx hZ (y := (⟨"com/example/wayfold/wayfold/engine/TimelineCopyPinLaw", "ok", "([DIII)Z"⟩ : MethodName)) hown (own_w hw 62 rfl) (own_w hw 63 rfl) (own_w hw 36 rfl) (own_w hw 64 rfl) (by decide) (by rw [hml]; rfl) (argsL := [(.ref b5), (.int (p2 + (12 : Int32))), (.int (p3 - (12 : Int32))), (.int p4)]) pd_7 rfl (rm7 l Z a0 hw [] b5 (p2 + (12 : Int32)) (p3 - (12 : Int32)) p4 g40 g41 g42 h0 n0 Z0 V_b5 hg40 hg41 hg42) (by decide) (by decide) (Nat.le_of_eq rfl) (by decide) (by decide) (rest := []) e9 rfl (hb hby d6_81) ?_
  intro v10 T10 L10 X10 hQ10
  obtain ⟨rfl, N10q, e10⟩ := hQ10
  have N10 := Fr.app N8 N10q
  show own_Go p e below _ T10 (mkF m 84 #[.val (.ref a1), .val (.int p2), .val (.int p3), .val (.int p4)] [(.int (1 : Int32))])
  refine own_if X10 hx 148 (hb hby d6_84) (by decide) (by decide) (fun hc => absurd (show ¬ (1 : Int32) = (0 : Int32) from by decide) (by first | exact hc | exact not_not_intro hc)) (fun _ => ?_)
  show own_Go p e below _ T10 (mkF m 87 #[.val (.ref a1), .val (.int p2), .val (.int p3), .val (.int p4)] [])
  refine own_by (fun t_ k_ => XS.aloadN X10.here hx rfl (hb hby d6_87) rfl rfl k_) ?_
  show own_Go p e below _ T10 (mkF m 88 #[.val (.ref a1), .val (.int p2), .val (.int p3), .val (.int p4)] [(.ref a1)])
  refine own_getF X10 hx hZ hown (own_w hw 46 rfl) Via.refl e10 F_load (hb hby d6_88) ?_
  intro T11 X11 e11
  show own_Go p e below _ T11 (mkF m 91 #[.val (.ref a1), .val (.int p2), .val (.int p3), .val (.int p4)] [(.ref b6)])
  refine own_by (fun t_ k_ => XS.iloadN X11.here hx rfl (hb hby d6_91) rfl k_) ?_
  show own_Go p e below _ T11 (mkF m 92 #[.val (.ref a1), .val (.int p2), .val (.int p3), .val (.int p4)] [(.int p2), (.ref b6)])
  refine own_by (fun t_ k_ => XS.bipush X11.here hx rfl (hb hby d6_92) k_) ?_
  show own_Go p e below _ T11 (mkF m 94 #[.val (.ref a1), .val (.int p2), .val (.int p3), .val (.int p4)] [(.int (15 : Int32)), (.int p2), (.ref b6)])
  refine own_by (fun t_ k_ => XS.iadd X11.here hx rfl (hb hby d6_94) rfl k_) ?_
  show own_Go p e below _ T11 (mkF m 95 #[.val (.ref a1), .val (.int p2), .val (.int p3), .val (.int p4)] [(.int (p2 + (15 : Int32))), (.ref b6)])
  refine own_by (fun t_ k_ => XS.iloadN X11.here hx rfl (hb hby d6_95) rfl k_) ?_
  show own_Go p e below _ T11 (mkF m 96 #[.val (.ref a1), .val (.int p2), .val (.int p3), .val (.int p4)] [(.int p3), (.int (p2 + (15 : Int32))), (.ref b6)])
  refine own_by (fun t_ k_ => XS.bipush X11.here hx rfl (hb hby d6_96) k_) ?_
  show own_Go p e below _ T11 (mkF m 98 #[.val (.ref a1), .val (.int p2), .val (.int p3), .val (.int p4)] [(.int (15 : Int32)), (.int p3), (.int (p2 + (15 : Int32))), (.ref b6)])
  refine own_by (fun t_ k_ => XS.isub X11.here hx rfl (hb hby d6_98) rfl k_) ?_
  show own_Go p e below _ T11 (mkF m 99 #[.val (.ref a1), .val (.int p2), .val (.int p3), .val (.int p4)] [(.int (p3 - (15 : Int32))), (.int (p2 + (15 : Int32))), (.ref b6)])
  refine own_by (fun t_ k_ => XS.iloadN X11.here hx rfl (hb hby d6_99) rfl k_) ?_
  show own_Go p e below _ T11 (mkF m 100 #[.val (.ref a1), .val (.int p2), .val (.int p3), .val (.int p4)] [(.int p4), (.int (p3 - (15 : Int32))), (.int (p2 + (15 : Int32))), (.ref b6)])
  refine own_callS (W := 0) X11 hx hZ (y := (⟨"com/example/wayfold/wayfold/engine/TimelineCopyPinLaw", "ok", "([DIII)Z"⟩ : MethodName)) hown (own_w hw 62 rfl) (own_w hw 63 rfl) (own_w hw 36 rfl) (own_w hw 64 rfl) (by decide) (by rw [hml]; rfl) (argsL := [(.ref b6), (.int (p2 + (15 : Int32))), (.int (p3 - (15 : Int32))), (.int p4)]) pd_7 rfl (rm7 l Z a0 hw [] b6 (p2 + (15 : Int32)) (p3 - (15 : Int32)) p4 g50 g51 g52 h0 n0 Z0 V_b6 hg50 hg51 hg52) (by decide) (by decide) (Nat.le_of_eq rfl) (by decide) (by decide) (rest := []) e11 rfl (hb hby d6_100) ?_
  intro v12 T12 L12 X12 hQ12
  obtain ⟨rfl, N12q, e12⟩ := hQ12
  have N12 := Fr.app N10 N12q
  show own_Go p e below _ T12 (mkF m 103 #[.val (.ref a1), .val (.int p2), .val (.int p3), .val (.int p4)] [(.int (1 : Int32))])
  refine own_if X12 hx 148 (hb hby d6_103) (by decide) (by decide) (fun hc => absurd (show ¬ (1 : Int32) = (0 : Int32) from by decide) (by first | exact hc | exact not_not_intro hc)) (fun _ => ?_)
  show own_Go p e below _ T12 (mkF m 106 #[.val (.ref a1), .val (.int p2), .val (.int p3), .val (.int p4)] [])
  refine own_by (fun t_ k_ => XS.aloadN X12.here hx rfl (hb hby d6_106) rfl rfl k_) ?_
  show own_Go p e below _ T12 (mkF m 107 #[.val (.ref a1), .val (.int p2), .val (.int p3), .val (.int p4)] [(.ref a1)])
  refine own_getF X12 hx hZ hown (own_w hw 47 rfl) Via.refl e12 F_latest (hb hby d6_107) ?_
  intro T13 X13 e13
  show own_Go p e below _ T13 (mkF m 110 #[.val (.ref a1), .val (.int p2), .val (.int p3), .val (.int p4)] [(.ref b7)])
  refine own_by (fun t_ k_ => XS.iloadN X13.here hx rfl (hb hby d6_110) rfl k_) ?_
  show own_Go p e below _ T13 (mkF m 111 #[.val (.ref a1), .val (.int p2), .val (.int p3), .val (.int p4)] [(.int p2), (.ref b7)])
  refine own_by (fun t_ k_ => XS.bipush X13.here hx rfl (hb hby d6_111) k_) ?_
  show own_Go p e below _ T13 (mkF m 113 #[.val (.ref a1), .val (.int p2), .val (.int p3), .val (.int p4)] [(.int (18 : Int32)), (.int p2), (.ref b7)])
  refine own_by (fun t_ k_ => XS.iadd X13.here hx rfl (hb hby d6_113) rfl k_) ?_
  show own_Go p e below _ T13 (mkF m 114 #[.val (.ref a1), .val (.int p2), .val (.int p3), .val (.int p4)] [(.int (p2 + (18 : Int32))), (.ref b7)])
  refine own_by (fun t_ k_ => XS.iloadN X13.here hx rfl (hb hby d6_114) rfl k_) ?_
  show own_Go p e below _ T13 (mkF m 115 #[.val (.ref a1), .val (.int p2), .val (.int p3), .val (.int p4)] [(.int p3), (.int (p2 + (18 : Int32))), (.ref b7)])
  refine own_by (fun t_ k_ => XS.bipush X13.here hx rfl (hb hby d6_115) k_) ?_
  show own_Go p e below _ T13 (mkF m 117 #[.val (.ref a1), .val (.int p2), .val (.int p3), .val (.int p4)] [(.int (18 : Int32)), (.int p3), (.int (p2 + (18 : Int32))), (.ref b7)])
  refine own_by (fun t_ k_ => XS.isub X13.here hx rfl (hb hby d6_117) rfl k_) ?_
  show own_Go p e below _ T13 (mkF m 118 #[.val (.ref a1), .val (.int p2), .val (.int p3), .val (.int p4)] [(.int (p3 - (18 : Int32))), (.int (p2 + (18 : Int32))), (.ref b7)])
  refine own_by (fun t_ k_ => XS.iloadN X13.here hx rfl (hb hby d6_118) rfl k_) ?_
  show own_Go p e below _ T13 (mkF m 119 #[.val (.ref a1), .val (.int p2), .val (.int p3), .val (.int p4)] [(.int p4), (.int (p3 - (18 : Int32))), (.int (p2 + (18 : Int32))), (.ref b7)])
  refine own_callS (W := 0) X13 hx hZ (y := (⟨"com/example/wayfold/wayfold/engine/TimelineCopyPinLaw", "ok", "([DIII)Z"⟩ : MethodName)) hown (own_w hw 62 rfl) (own_w hw 63 rfl) (own_w hw 36 rfl) (own_w hw 64 rfl) (by decide) (by rw [hml]; rfl) (argsL := [(.ref b7), (.int (p2 + (18 : Int32))), (.int (p3 - (18 : Int32))), (.int p4)]) pd_7 rfl (rm7 l Z a0 hw [] b7 (p2 + (18 : Int32)) (p3 - (18 : Int32)) p4 g60 g61 g62 h0 n0 Z0 V_b7 hg60 hg61 hg62) (by decide) (by decide) (Nat.le_of_eq rfl) (by decide) (by decide) (rest := []) e13 rfl (hb hby d6_119) ?_
  intro v14 T14 L14 X14 hQ14
  obtain ⟨rfl, N14q, e14⟩ := hQ14
  have N14 := Fr.app N12 N14q
  show own_Go p e below _ T14 (mkF m 122 #[.val (.ref a1), .val (.int p2), .val (.int p3), .val (.int p4)] [(.int (1 : Int32))])
  refine own_if X14 hx 148 (hb hby d6_122) (by decide) (by decide) (fun hc => absurd (show ¬ (1 : Int32) = (0 : Int32) from by decide) (by first | exact hc | exact not_not_intro hc)) (fun _ => ?_)
  show own_Go p e below _ T14 (mkF m 125 #[.val (.ref a1), .val (.int p2), .val (.int p3), .val (.int p4)] [])
  refine own_by (fun t_ k_ => XS.aloadN X14.here hx rfl (hb hby d6_125) rfl rfl k_) ?_
  show own_Go p e below _ T14 (mkF m 126 #[.val (.ref a1), .val (.int p2), .val (.int p3), .val (.int p4)] [(.ref a1)])
  refine own_getF X14 hx hZ hown (own_w hw 48 rfl) Via.refl e14 F_best (hb hby d6_126) ?_
  intro T15 X15 e15
  show own_Go p e below _ T15 (mkF m 129 #[.val (.ref a1), .val (.int p2), .val (.int p3), .val (.int p4)] [(.ref b8)])
  refine own_by (fun t_ k_ => XS.iloadN X15.here hx rfl (hb hby d6_129) rfl k_) ?_
  show own_Go p e below _ T15 (mkF m 130 #[.val (.ref a1), .val (.int p2), .val (.int p3), .val (.int p4)] [(.int p2), (.ref b8)])
  refine own_by (fun t_ k_ => XS.bipush X15.here hx rfl (hb hby d6_130) k_) ?_
  show own_Go p e below _ T15 (mkF m 132 #[.val (.ref a1), .val (.int p2), .val (.int p3), .val (.int p4)] [(.int (21 : Int32)), (.int p2), (.ref b8)])
  refine own_by (fun t_ k_ => XS.iadd X15.here hx rfl (hb hby d6_132) rfl k_) ?_
  show own_Go p e below _ T15 (mkF m 133 #[.val (.ref a1), .val (.int p2), .val (.int p3), .val (.int p4)] [(.int (p2 + (21 : Int32))), (.ref b8)])
  refine own_by (fun t_ k_ => XS.iloadN X15.here hx rfl (hb hby d6_133) rfl k_) ?_
  show own_Go p e below _ T15 (mkF m 134 #[.val (.ref a1), .val (.int p2), .val (.int p3), .val (.int p4)] [(.int p3), (.int (p2 + (21 : Int32))), (.ref b8)])
  refine own_by (fun t_ k_ => XS.bipush X15.here hx rfl (hb hby d6_134) k_) ?_
  show own_Go p e below _ T15 (mkF m 136 #[.val (.ref a1), .val (.int p2), .val (.int p3), .val (.int p4)] [(.int (21 : Int32)), (.int p3), (.int (p2 + (21 : Int32))), (.ref b8)])
  refine own_by (fun t_ k_ => XS.isub X15.here hx rfl (hb hby d6_136) rfl k_) ?_
  show own_Go p e below _ T15 (mkF m 137 #[.val (.ref a1), .val (.int p2), .val (.int p3), .val (.int p4)] [(.int (p3 - (21 : Int32))), (.int (p2 + (21 : Int32))), (.ref b8)])
  refine own_by (fun t_ k_ => XS.iloadN X15.here hx rfl (hb hby d6_137) rfl k_) ?_
  show own_Go p e below _ T15 (mkF m 138 #[.val (.ref a1), .val (.int p2), .val (.int p3), .val (.int p4)] [(.int p4), (.int (p3 - (21 : Int32))), (.int (p2 + (21 : Int32))), (.ref b8)])
  refine own_callS (W := 0) X15 hx hZ (y := (⟨"com/example/wayfold/wayfold/engine/TimelineCopyPinLaw", "ok", "([DIII)Z"⟩ : MethodName)) hown (own_w hw 62 rfl) (own_w hw 63 rfl) (own_w hw 36 rfl) (own_w hw 64 rfl) (by decide) (by rw [hml]; rfl) (argsL := [(.ref b8), (.int (p2 + (21 : Int32))), (.int (p3 - (21 : Int32))), (.int p4)]) pd_7 rfl (rm7 l Z a0 hw [] b8 (p2 + (21 : Int32)) (p3 - (21 : Int32)) p4 g70 g71 g72 h0 n0 Z0 V_b8 hg70 hg71 hg72) (by decide) (by decide) (Nat.le_of_eq rfl) (by decide) (by decide) (rest := []) e15 rfl (hb hby d6_138) ?_
  intro v16 T16 L16 X16 hQ16
  obtain ⟨rfl, N16q, e16⟩ := hQ16
  have N16 := Fr.app N14 N16q
  show own_Go p e below _ T16 (mkF m 141 #[.val (.ref a1), .val (.int p2), .val (.int p3), .val (.int p4)] [(.int (1 : Int32))])
  refine own_if X16 hx 148 (hb hby d6_141) (by decide) (by decide) (fun hc => absurd (show ¬ (1 : Int32) = (0 : Int32) from by decide) (by first | exact hc | exact not_not_intro hc)) (fun _ => ?_)
  show own_Go p e below _ T16 (mkF m 144 #[.val (.ref a1), .val (.int p2), .val (.int p3), .val (.int p4)] [])
  refine own_by (fun t_ k_ => XS.iconst X16.here hx rfl (hb hby d6_144) k_) ?_
  show own_Go p e below _ T16 (mkF m 145 #[.val (.ref a1), .val (.int p2), .val (.int p3), .val (.int p4)] [(.int (1 : Int32))])
  refine own_by (fun t_ k_ => XS.goto X16.here hx rfl (pc0 := 145) (pc' := 149) rfl (hb hby d6_145) (by decide) (by decide) k_) ?_
  show own_Go p e below _ T16 (mkF m 149 #[.val (.ref a1), .val (.int p2), .val (.int p3), .val (.int p4)] [(.int (1 : Int32))])
  refine own_retZ X16 hx hlk Bd.returns (by decide) (hb hby d6_149) e16 (by decide) (by decide) ?_
  exact ⟨rfl, N16, rfl⟩
theorem ef_0 (m : MethodId) (p1 : Int32) (p2 : Int32) (p3 : Int32) (p4 : Int32) (p5 : Int32) (p6 : Int32) : entryFrame m #[(.int p1), (.int p2), (.int p3), (.int p4), (.int p5), (.int p6)] maxLocals = mkF m 0 #[.val (.int p1), .val (.int p2), .val (.int p3), .val (.int p4), .val (.int p5), .val (.int p6), .unset, .unset, .unset, .unset, .unset] [] := by first | (simp [entryFrame, mkF, argsToLocals, Value.category, maxLocals]; done) | rfl
set_option maxRecDepth 65536 in
set_option maxHeartbeats 40000000 in
theorem rm0 (l : Launch) (Z : State) (a0 : Array Value) (hw : ∀ d ∈ tables_1, d.before a0 Z = true) (ws : List Jvm.Cond) (p1 : Int32) (p2 : Int32) (p3 : Int32) (p4 : Int32) (p5 : Int32) (p6 : Int32) (h0 : Heap) (n0 : Nat) (Z0 : n0 ≤ h0.size) :
    MetFree l x (head1 (Jvm.Cond.code x code maxLocals ret :: ws) room_1) (fun a U => a = #[(.int p1), (.int p2), (.int p3), (.int p4), (.int p5), (.int p6)] ∧ Z.Warmed39 U.vm ∧ U.heap = h0) (fun _ _ _ _ _ => True) (fun _ U o U' => ∃ v L, o = .returned v ∧ Q0 n0 v U'.heap L ∧ FrameEnd U o U' L room_1.cells room_1.slots) := by
  refine MetFree.of_bodySF (plainFor_of_name pn_0) hisR ?_
  intro p e s m args below meth c s₁ Bd hml0 hP hK
  obtain ⟨rfl, hZ, hh⟩ := hP
  have hx := Bd.exec
  have hby := Bd.bytes
  have hml : c.maxLocals = 11 := hml0
  have hown : s.vm.findClass "com/example/wayfold/wayfold/engine/TimelineCopyPinLaw" = some m.cls := findClass_of_methodNamed Bd.named
  have hnm := (name_of_methodNamed Bd.named Bd.method).1
  have hlk : meth.locks = false := BodyLoose.notSynchronized Bd
  have X0 : Stand p l e room_1 s m #[(.int p1), (.int p2), (.int p3), (.int p4), (.int p5), (.int p6)] below meth c s₁ [] 0 0 := Stand.of_body Bd
  have e0 : s₁.heap = h0 := by rw [← hh, Bd.state]; rfl
  have N0 := Fr.nil n0
  refine own_start (Q := Q0 n0) (ef_0 m p1 p2 p3 p4 p5 p6) ?_
  show own_Go p e below _ s₁ (mkF m 0 #[.val (.int p1), .val (.int p2), .val (.int p3), .val (.int p4), .val (.int p5), .val (.int p6), .unset, .unset, .unset, .unset, .unset] [])
  refine own_by (fun t_ k_ => XS.iloadN X0.here hx rfl (hb hby at_0) rfl k_) ?_
  show own_Go p e below _ s₁ (mkF m 1 #[.val (.int p1), .val (.int p2), .val (.int p3), .val (.int p4), .val (.int p5), .val (.int p6), .unset, .unset, .unset, .unset, .unset] [(.int p1)])
  refine own_by (fun t_ k_ => X0.ldcInt hx hown (mvT hZ (own_w hw 0 rfl)) (g := (mkF m 1 #[.val (.int p1), .val (.int p2), .val (.int p3), .val (.int p4), .val (.int p5), .val (.int p6), .unset, .unset, .unset, .unset, .unset] [(.int p1)])) rfl (hb hby at_1) _ k_) ?_
  show own_Go p e below _ s₁ (mkF m 3 #[.val (.int p1), .val (.int p2), .val (.int p3), .val (.int p4), .val (.int p5), .val (.int p6), .unset, .unset, .unset, .unset, .unset] [(.int (2147483647 : Int32)), (.int p1)])
  refine own_by (fun t_ k_ => XS.iand X0.here hx rfl (hb hby at_3) rfl k_) ?_
  show own_Go p e below _ s₁ (mkF m 4 #[.val (.int p1), .val (.int p2), .val (.int p3), .val (.int p4), .val (.int p5), .val (.int p6), .unset, .unset, .unset, .unset, .unset] [(.int (p1 &&& (2147483647 : Int32)))])
  refine own_by (fun t_ k_ => XS.iconst X0.here hx rfl (hb hby at_4) k_) ?_
  show own_Go p e below _ s₁ (mkF m 5 #[.val (.int p1), .val (.int p2), .val (.int p3), .val (.int p4), .val (.int p5), .val (.int p6), .unset, .unset, .unset, .unset, .unset] [(.int (3 : Int32)), (.int (p1 &&& (2147483647 : Int32)))])
  refine own_by (fun t_ k_ => iremM X0 hx rfl (hb hby at_5) rfl (by decide) k_) ?_
  show own_Go p e below _ s₁ (mkF m 6 #[.val (.int p1), .val (.int p2), .val (.int p3), .val (.int p4), .val (.int p5), .val (.int p6), .unset, .unset, .unset, .unset, .unset] [(.int ((p1 &&& (2147483647 : Int32)) % (3 : Int32)))])
  refine own_by (fun t_ k_ => XS.istore X0.here hx rfl (hb hby at_6) rfl (l' := #[.val (.int p1), .val (.int p2), .val (.int p3), .val (.int p4), .val (.int p5), .val (.int p6), .val (.int ((p1 &&& (2147483647 : Int32)) % (3 : Int32))), .unset, .unset, .unset, .unset]) rfl k_) ?_
  show own_Go p e below _ s₁ (mkF m 8 #[.val (.int p1), .val (.int p2), .val (.int p3), .val (.int p4), .val (.int p5), .val (.int p6), .val (.int ((p1 &&& (2147483647 : Int32)) % (3 : Int32))), .unset, .unset, .unset, .unset] [])
  generalize h_len : ((p1 &&& (2147483647 : Int32)) % (3 : Int32)) = len
  show own_Go p e below _ s₁ (mkF m 8 #[.val (.int p1), .val (.int p2), .val (.int p3), .val (.int p4), .val (.int p5), .val (.int p6), .val (.int len), .unset, .unset, .unset, .unset] [])
  refine own_by (fun t_ k_ => XS.iloadN X0.here hx rfl (hb hby at_8) rfl k_) ?_
  show own_Go p e below _ s₁ (mkF m 9 #[.val (.int p1), .val (.int p2), .val (.int p3), .val (.int p4), .val (.int p5), .val (.int p6), .val (.int len), .unset, .unset, .unset, .unset] [(.int p4)])
  refine own_by (fun t_ k_ => X0.ldcInt hx hown (mvT hZ (own_w hw 1 rfl)) (g := (mkF m 9 #[.val (.int p1), .val (.int p2), .val (.int p3), .val (.int p4), .val (.int p5), .val (.int p6), .val (.int len), .unset, .unset, .unset, .unset] [(.int p4)])) rfl (hb hby at_9) _ k_) ?_
  show own_Go p e below _ s₁ (mkF m 11 #[.val (.int p1), .val (.int p2), .val (.int p3), .val (.int p4), .val (.int p5), .val (.int p6), .val (.int len), .unset, .unset, .unset, .unset] [(.int (65535 : Int32)), (.int p4)])
  refine own_by (fun t_ k_ => XS.iand X0.here hx rfl (hb hby at_11) rfl k_) ?_
  show own_Go p e below _ s₁ (mkF m 12 #[.val (.int p1), .val (.int p2), .val (.int p3), .val (.int p4), .val (.int p5), .val (.int p6), .val (.int len), .unset, .unset, .unset, .unset] [(.int (p4 &&& (65535 : Int32)))])
  refine own_by (fun t_ k_ => XS.istore X0.here hx rfl (hb hby at_12) rfl (l' := #[.val (.int p1), .val (.int p2), .val (.int p3), .val (.int p4), .val (.int p5), .val (.int p6), .val (.int len), .val (.int (p4 &&& (65535 : Int32))), .unset, .unset, .unset]) rfl k_) ?_
  show own_Go p e below _ s₁ (mkF m 14 #[.val (.int p1), .val (.int p2), .val (.int p3), .val (.int p4), .val (.int p5), .val (.int p6), .val (.int len), .val (.int (p4 &&& (65535 : Int32))), .unset, .unset, .unset] [])
  generalize h_src : (p4 &&& (65535 : Int32)) = src
  show own_Go p e below _ s₁ (mkF m 14 #[.val (.int p1), .val (.int p2), .val (.int p3), .val (.int p4), .val (.int p5), .val (.int p6), .val (.int len), .val (.int src), .unset, .unset, .unset] [])
  refine own_by (fun t_ k_ => XS.bipush X0.here hx rfl (hb hby at_14) k_) ?_
  show own_Go p e below _ s₁ (mkF m 16 #[.val (.int p1), .val (.int p2), .val (.int p3), .val (.int p4), .val (.int p5), .val (.int p6), .val (.int len), .val (.int src), .unset, .unset, .unset] [(.int (-3 : Int32))])
  refine own_by (fun t_ k_ => XS.iload X0.here hx rfl (hb hby at_16) rfl k_) ?_
  show own_Go p e below _ s₁ (mkF m 18 #[.val (.int p1), .val (.int p2), .val (.int p3), .val (.int p4), .val (.int p5), .val (.int p6), .val (.int len), .val (.int src), .unset, .unset, .unset] [(.int p5), (.int (-3 : Int32))])
  refine own_by (fun t_ k_ => X0.ldcInt hx hown (mvT hZ (own_w hw 1 rfl)) (g := (mkF m 18 #[.val (.int p1), .val (.int p2), .val (.int p3), .val (.int p4), .val (.int p5), .val (.int p6), .val (.int len), .val (.int src), .unset, .unset, .unset] [(.int p5), (.int (-3 : Int32))])) rfl (hb hby at_18) _ k_) ?_
  show own_Go p e below _ s₁ (mkF m 20 #[.val (.int p1), .val (.int p2), .val (.int p3), .val (.int p4), .val (.int p5), .val (.int p6), .val (.int len), .val (.int src), .unset, .unset, .unset] [(.int (65535 : Int32)), (.int p5), (.int (-3 : Int32))])
  refine own_by (fun t_ k_ => XS.iand X0.here hx rfl (hb hby at_20) rfl k_) ?_
  show own_Go p e below _ s₁ (mkF m 21 #[.val (.int p1), .val (.int p2), .val (.int p3), .val (.int p4), .val (.int p5), .val (.int p6), .val (.int len), .val (.int src), .unset, .unset, .unset] [(.int (p5 &&& (65535 : Int32))), (.int (-3 : Int32))])
  refine own_by (fun t_ k_ => XS.isub X0.here hx rfl (hb hby at_21) rfl k_) ?_
  show own_Go p e below _ s₁ (mkF m 22 #[.val (.int p1), .val (.int p2), .val (.int p3), .val (.int p4), .val (.int p5), .val (.int p6), .val (.int len), .val (.int src), .unset, .unset, .unset] [(.int ((-3 : Int32) - (p5 &&& (65535 : Int32))))])
  refine own_by (fun t_ k_ => XS.istore X0.here hx rfl (hb hby at_22) rfl (l' := #[.val (.int p1), .val (.int p2), .val (.int p3), .val (.int p4), .val (.int p5), .val (.int p6), .val (.int len), .val (.int src), .val (.int ((-3 : Int32) - (p5 &&& (65535 : Int32)))), .unset, .unset]) rfl k_) ?_
  show own_Go p e below _ s₁ (mkF m 24 #[.val (.int p1), .val (.int p2), .val (.int p3), .val (.int p4), .val (.int p5), .val (.int p6), .val (.int len), .val (.int src), .val (.int ((-3 : Int32) - (p5 &&& (65535 : Int32)))), .unset, .unset] [])
  generalize h_old : ((-3 : Int32) - (p5 &&& (65535 : Int32))) = old
  show own_Go p e below _ s₁ (mkF m 24 #[.val (.int p1), .val (.int p2), .val (.int p3), .val (.int p4), .val (.int p5), .val (.int p6), .val (.int len), .val (.int src), .val (.int old), .unset, .unset] [])
  refine own_newO X0 hx hZ hown (own_w hw 2 rfl) (own_w hw 3 rfl) (own_w hw 4 rfl) e0 (hb hby at_24) (by decide) (by decide) ?_
  intro T1 h1 b1 X1 e1 g1 E1 A1 D1
  have g_b1 : n0 ≤ b1 := Nat.le_trans Z0 (Nat.le_of_eq g1.symm)
  have sz1 : n0 ≤ h1.size := Nat.le_trans Z0 E1.1
  have F2_0 : Fld Z h1 b1 "com/example/wayfold/wayfold/engine/DayTiming$Timeline" "nodes" "[I" .null := D1 (Or.inr (own_w hw 13 rfl)) (ty := (.array .int)) (by decide)
  have F3_0 : Fld Z h1 b1 "com/example/wayfold/wayfold/engine/DayTiming$Timeline" "leave" "[D" .null := D1 (Or.inr (own_w hw 16 rfl)) (ty := (.array .double)) (by decide)
  have F4_0 : Fld Z h1 b1 "com/example/wayfold/wayfold/engine/DayTiming$Timeline" "interest" "[D" .null := D1 (Or.inr (own_w hw 18 rfl)) (ty := (.array .double)) (by decide)
  have F5_0 : Fld Z h1 b1 "com/example/wayfold/wayfold/engine/DayTiming$Timeline" "travel" "[D" .null := D1 (Or.inr (own_w hw 20 rfl)) (ty := (.array .double)) (by decide)
  have F6_0 : Fld Z h1 b1 "com/example/wayfold/wayfold/engine/DayTiming$Timeline" "visit" "[D" .null := D1 (Or.inr (own_w hw 22 rfl)) (ty := (.array .double)) (by decide)
  have F7_0 : Fld Z h1 b1 "com/example/wayfold/wayfold/engine/DayTiming$Timeline" "waiting" "[D" .null := D1 (Or.inr (own_w hw 24 rfl)) (ty := (.array .double)) (by decide)
  have F8_0 : Fld Z h1 b1 "com/example/wayfold/wayfold/engine/DayTiming$Timeline" "load" "[D" .null := D1 (Or.inr (own_w hw 26 rfl)) (ty := (.array .double)) (by decide)
  have F9_0 : Fld Z h1 b1 "com/example/wayfold/wayfold/engine/DayTiming$Timeline" "latest" "[D" .null := D1 (Or.inr (own_w hw 28 rfl)) (ty := (.array .double)) (by decide)
  have F10_0 : Fld Z h1 b1 "com/example/wayfold/wayfold/engine/DayTiming$Timeline" "best" "[D" .null := D1 (Or.inr (own_w hw 30 rfl)) (ty := (.array .double)) (by decide)
  have F11_0 : Fld Z h1 b1 "com/example/wayfold/wayfold/engine/DayTiming$Timeline" "length" "I" (.int (0 : Int32)) := D1 (Or.inl (own_w hw 32 rfl)) (ty := .int) (by decide)
  show own_Go p e below _ T1 (mkF m 27 #[.val (.int p1), .val (.int p2), .val (.int p3), .val (.int p4), .val (.int p5), .val (.int p6), .val (.int len), .val (.int src), .val (.int old), .unset, .unset] [(.ref b1)])
  refine own_by (fun t_ k_ => XS.dup X1.here hx rfl (hb hby at_27) rfl rfl k_) ?_
  show own_Go p e below _ T1 (mkF m 28 #[.val (.int p1), .val (.int p2), .val (.int p3), .val (.int p4), .val (.int p5), .val (.int p6), .val (.int len), .val (.int src), .val (.int old), .unset, .unset] [(.ref b1), (.ref b1)])
  refine own_by (fun t_ k_ => XS.iconst X1.here hx rfl (hb hby at_28) k_) ?_
  show own_Go p e below _ T1 (mkF m 29 #[.val (.int p1), .val (.int p2), .val (.int p3), .val (.int p4), .val (.int p5), .val (.int p6), .val (.int len), .val (.int src), .val (.int old), .unset, .unset] [(.int (2 : Int32)), (.ref b1), (.ref b1)])
  refine own_callC (W := 1) X1 hx hZ (y := (⟨"com/example/wayfold/wayfold/engine/DayTiming$Timeline", "<init>", "(I)V"⟩ : MethodName)) rfl hown (own_w hw 5 rfl) (own_w hw 6 rfl) (own_w hw 4 rfl) (own_w hw 7 rfl) (by decide) (by rw [hml]; rfl) (argsL := [(.int (2 : Int32))]) pd_0 rfl (a := b1) (rm1 l Z a0 hw [] b1 h1 n0 sz1 A1 F11_0 F2_0 F3_0 F4_0 F5_0 F6_0 F7_0 F8_0 F9_0 F10_0 g_b1) (by decide) (by decide) (Nat.le_of_eq rfl) (by decide) (by decide) (rest := [(.ref b1)]) e1 rfl (hb hby at_29) ?_
  intro v12 T12 L12 X12 hQ12
  obtain ⟨b12_0, b12_1, b12_2, b12_3, b12_4, b12_5, b12_6, b12_7, b12_8, rfl, N12q, K12, E12, Fl12, hb12, ⟨q12_0, q12_1, q12_2, q12_3, q12_4, q12_5, q12_6, q12_7⟩, he12, ⟨F12_0, F12_1, F12_2, F12_3, F12_4, F12_5, F12_6, F12_7, F12_8⟩, V12_0, V12_1, V12_2, V12_3, V12_4, V12_5, V12_6, V12_7, V12_8⟩ := hQ12
  have N12 := Fr.app N0 N12q
  have sz12 : n0 ≤ T12.heap.size := Nat.le_trans sz1 K12.1
  have lx12 : b1 < b12_0 := Nat.lt_of_lt_of_le A1.lt hb12
  have g_b12_0 : n0 ≤ b12_0 := Nat.le_trans sz1 hb12
  have g_b12_1 : n0 ≤ b12_1 := Nat.le_of_lt (Nat.lt_of_le_of_lt g_b12_0 q12_0)
  have g_b12_2 : n0 ≤ b12_2 := Nat.le_of_lt (Nat.lt_of_le_of_lt g_b12_1 q12_1)
  have g_b12_3 : n0 ≤ b12_3 := Nat.le_of_lt (Nat.lt_of_le_of_lt g_b12_2 q12_2)
  have g_b12_4 : n0 ≤ b12_4 := Nat.le_of_lt (Nat.lt_of_le_of_lt g_b12_3 q12_3)
  have g_b12_5 : n0 ≤ b12_5 := Nat.le_of_lt (Nat.lt_of_le_of_lt g_b12_4 q12_4)
  have g_b12_6 : n0 ≤ b12_6 := Nat.le_of_lt (Nat.lt_of_le_of_lt g_b12_5 q12_5)
  have g_b12_7 : n0 ≤ b12_7 := Nat.le_of_lt (Nat.lt_of_le_of_lt g_b12_6 q12_6)
  have g_b12_8 : n0 ≤ b12_8 := Nat.le_of_lt (Nat.lt_of_le_of_lt g_b12_7 q12_7)
  show own_Go p e below _ T12 (mkF m 32 #[.val (.int p1), .val (.int p2), .val (.int p3), .val (.int p4), .val (.int p5), .val (.int p6), .val (.int len), .val (.int src), .val (.int old), .unset, .unset] [(.ref b1)])
  refine own_by (fun t_ k_ => XS.astore X12.here hx rfl (hb hby at_32) rfl rfl (l' := #[.val (.int p1), .val (.int p2), .val (.int p3), .val (.int p4), .val (.int p5), .val (.int p6), .val (.int len), .val (.int src), .val (.int old), .val (.ref b1), .unset]) rfl k_) ?_
  show own_Go p e below _ T12 (mkF m 34 #[.val (.int p1), .val (.int p2), .val (.int p3), .val (.int p4), .val (.int p5), .val (.int p6), .val (.int len), .val (.int src), .val (.int old), .val (.ref b1), .unset] [])
  refine own_newO X12 hx hZ hown (own_w hw 2 rfl) (own_w hw 3 rfl) (own_w hw 4 rfl) rfl (hb hby at_34) (by decide) (by decide) ?_
  intro T13 h13 b13 X13 e13 g13 E13 A13 D13
  have lt_b1_b13 : b1 < b13 := Nat.lt_of_lt_of_le E12.lt (Nat.le_of_eq g13.symm)
  have lt_b12_0_b13 : b12_0 < b13 := Nat.lt_of_lt_of_le V12_0.lt (Nat.le_of_eq g13.symm)
  have lt_b12_1_b13 : b12_1 < b13 := Nat.lt_of_lt_of_le V12_1.lt (Nat.le_of_eq g13.symm)
  have lt_b12_2_b13 : b12_2 < b13 := Nat.lt_of_lt_of_le V12_2.lt (Nat.le_of_eq g13.symm)
  have lt_b12_3_b13 : b12_3 < b13 := Nat.lt_of_lt_of_le V12_3.lt (Nat.le_of_eq g13.symm)
  have lt_b12_4_b13 : b12_4 < b13 := Nat.lt_of_lt_of_le V12_4.lt (Nat.le_of_eq g13.symm)
  have lt_b12_5_b13 : b12_5 < b13 := Nat.lt_of_lt_of_le V12_5.lt (Nat.le_of_eq g13.symm)
  have lt_b12_6_b13 : b12_6 < b13 := Nat.lt_of_lt_of_le V12_6.lt (Nat.le_of_eq g13.symm)
  have lt_b12_7_b13 : b12_7 < b13 := Nat.lt_of_lt_of_le V12_7.lt (Nat.le_of_eq g13.symm)
  have lt_b12_8_b13 : b12_8 < b13 := Nat.lt_of_lt_of_le V12_8.lt (Nat.le_of_eq g13.symm)
  have g_b13 : n0 ≤ b13 := Nat.le_trans sz12 (Nat.le_of_eq g13.symm)
  have sz13 : n0 ≤ h13.size := Nat.le_trans sz12 E13.1
  have F14_0 : Fld Z h13 b13 "com/example/wayfold/wayfold/engine/DayTiming$Timeline" "nodes" "[I" .null := D13 (Or.inr (own_w hw 13 rfl)) (ty := (.array .int)) (by decide)
  have F15_0 : Fld Z h13 b13 "com/example/wayfold/wayfold/engine/DayTiming$Timeline" "leave" "[D" .null := D13 (Or.inr (own_w hw 16 rfl)) (ty := (.array .double)) (by decide)
  have F16_0 : Fld Z h13 b13 "com/example/wayfold/wayfold/engine/DayTiming$Timeline" "interest" "[D" .null := D13 (Or.inr (own_w hw 18 rfl)) (ty := (.array .double)) (by decide)
  have F17_0 : Fld Z h13 b13 "com/example/wayfold/wayfold/engine/DayTiming$Timeline" "travel" "[D" .null := D13 (Or.inr (own_w hw 20 rfl)) (ty := (.array .double)) (by decide)
  have F18_0 : Fld Z h13 b13 "com/example/wayfold/wayfold/engine/DayTiming$Timeline" "visit" "[D" .null := D13 (Or.inr (own_w hw 22 rfl)) (ty := (.array .double)) (by decide)
  have F19_0 : Fld Z h13 b13 "com/example/wayfold/wayfold/engine/DayTiming$Timeline" "waiting" "[D" .null := D13 (Or.inr (own_w hw 24 rfl)) (ty := (.array .double)) (by decide)
  have F20_0 : Fld Z h13 b13 "com/example/wayfold/wayfold/engine/DayTiming$Timeline" "load" "[D" .null := D13 (Or.inr (own_w hw 26 rfl)) (ty := (.array .double)) (by decide)
  have F21_0 : Fld Z h13 b13 "com/example/wayfold/wayfold/engine/DayTiming$Timeline" "latest" "[D" .null := D13 (Or.inr (own_w hw 28 rfl)) (ty := (.array .double)) (by decide)
  have F22_0 : Fld Z h13 b13 "com/example/wayfold/wayfold/engine/DayTiming$Timeline" "best" "[D" .null := D13 (Or.inr (own_w hw 30 rfl)) (ty := (.array .double)) (by decide)
  have F23_0 : Fld Z h13 b13 "com/example/wayfold/wayfold/engine/DayTiming$Timeline" "length" "I" (.int (0 : Int32)) := D13 (Or.inl (own_w hw 32 rfl)) (ty := .int) (by decide)
  show own_Go p e below _ T13 (mkF m 37 #[.val (.int p1), .val (.int p2), .val (.int p3), .val (.int p4), .val (.int p5), .val (.int p6), .val (.int len), .val (.int src), .val (.int old), .val (.ref b1), .unset] [(.ref b13)])
  refine own_by (fun t_ k_ => XS.dup X13.here hx rfl (hb hby at_37) rfl rfl k_) ?_
  show own_Go p e below _ T13 (mkF m 38 #[.val (.int p1), .val (.int p2), .val (.int p3), .val (.int p4), .val (.int p5), .val (.int p6), .val (.int len), .val (.int src), .val (.int old), .val (.ref b1), .unset] [(.ref b13), (.ref b13)])
  refine own_by (fun t_ k_ => XS.iconst X13.here hx rfl (hb hby at_38) k_) ?_
  show own_Go p e below _ T13 (mkF m 39 #[.val (.int p1), .val (.int p2), .val (.int p3), .val (.int p4), .val (.int p5), .val (.int p6), .val (.int len), .val (.int src), .val (.int old), .val (.ref b1), .unset] [(.int (2 : Int32)), (.ref b13), (.ref b13)])
  refine own_callC (W := 1) X13 hx hZ (y := (⟨"com/example/wayfold/wayfold/engine/DayTiming$Timeline", "<init>", "(I)V"⟩ : MethodName)) rfl hown (own_w hw 5 rfl) (own_w hw 6 rfl) (own_w hw 4 rfl) (own_w hw 7 rfl) (by decide) (by rw [hml]; rfl) (argsL := [(.int (2 : Int32))]) pd_0 rfl (a := b13) (rm1 l Z a0 hw [] b13 h13 n0 sz13 A13 F23_0 F14_0 F15_0 F16_0 F17_0 F18_0 F19_0 F20_0 F21_0 F22_0 g_b13) (by decide) (by decide) (Nat.le_of_eq rfl) (by decide) (by decide) (rest := [(.ref b13)]) e13 rfl (hb hby at_39) ?_
  intro v24 T24 L24 X24 hQ24
  obtain ⟨b24_0, b24_1, b24_2, b24_3, b24_4, b24_5, b24_6, b24_7, b24_8, rfl, N24q, K24, E24, Fl24, hb24, ⟨q24_0, q24_1, q24_2, q24_3, q24_4, q24_5, q24_6, q24_7⟩, he24, ⟨F24_0, F24_1, F24_2, F24_3, F24_4, F24_5, F24_6, F24_7, F24_8⟩, V24_0, V24_1, V24_2, V24_3, V24_4, V24_5, V24_6, V24_7, V24_8⟩ := hQ24
  have N24 := Fr.app N12 N24q
  have sz24 : n0 ≤ T24.heap.size := Nat.le_trans sz13 K24.1
  have lx24 : b13 < b24_0 := Nat.lt_of_lt_of_le A13.lt hb24
  have g_b24_0 : n0 ≤ b24_0 := Nat.le_trans sz13 hb24
  have g_b24_1 : n0 ≤ b24_1 := Nat.le_of_lt (Nat.lt_of_le_of_lt g_b24_0 q24_0)
  have g_b24_2 : n0 ≤ b24_2 := Nat.le_of_lt (Nat.lt_of_le_of_lt g_b24_1 q24_1)
  have g_b24_3 : n0 ≤ b24_3 := Nat.le_of_lt (Nat.lt_of_le_of_lt g_b24_2 q24_2)
  have g_b24_4 : n0 ≤ b24_4 := Nat.le_of_lt (Nat.lt_of_le_of_lt g_b24_3 q24_3)
  have g_b24_5 : n0 ≤ b24_5 := Nat.le_of_lt (Nat.lt_of_le_of_lt g_b24_4 q24_4)
  have g_b24_6 : n0 ≤ b24_6 := Nat.le_of_lt (Nat.lt_of_le_of_lt g_b24_5 q24_5)
  have g_b24_7 : n0 ≤ b24_7 := Nat.le_of_lt (Nat.lt_of_le_of_lt g_b24_6 q24_6)
  have g_b24_8 : n0 ≤ b24_8 := Nat.le_of_lt (Nat.lt_of_le_of_lt g_b24_7 q24_7)
  show own_Go p e below _ T24 (mkF m 42 #[.val (.int p1), .val (.int p2), .val (.int p3), .val (.int p4), .val (.int p5), .val (.int p6), .val (.int len), .val (.int src), .val (.int old), .val (.ref b1), .unset] [(.ref b13)])
  refine own_by (fun t_ k_ => XS.astore X24.here hx rfl (hb hby at_42) rfl rfl (l' := #[.val (.int p1), .val (.int p2), .val (.int p3), .val (.int p4), .val (.int p5), .val (.int p6), .val (.int len), .val (.int src), .val (.int old), .val (.ref b1), .val (.ref b13)]) rfl k_) ?_
  show own_Go p e below _ T24 (mkF m 44 #[.val (.int p1), .val (.int p2), .val (.int p3), .val (.int p4), .val (.int p5), .val (.int p6), .val (.int len), .val (.int src), .val (.int old), .val (.ref b1), .val (.ref b13)] [])
  refine own_by (fun t_ k_ => XS.aload X24.here hx rfl (hb hby at_44) rfl rfl k_) ?_
  show own_Go p e below _ T24 (mkF m 46 #[.val (.int p1), .val (.int p2), .val (.int p3), .val (.int p4), .val (.int p5), .val (.int p6), .val (.int len), .val (.int src), .val (.int old), .val (.ref b1), .val (.ref b13)] [(.ref b1)])
  refine own_by (fun t_ k_ => XS.iload X24.here hx rfl (hb hby at_46) rfl k_) ?_
  show own_Go p e below _ T24 (mkF m 48 #[.val (.int p1), .val (.int p2), .val (.int p3), .val (.int p4), .val (.int p5), .val (.int p6), .val (.int len), .val (.int src), .val (.int old), .val (.ref b1), .val (.ref b13)] [(.int len), (.ref b1)])
  have Fl12_26 : Fld Z T24.heap b1 "com/example/wayfold/wayfold/engine/DayTiming$Timeline" "length" "I" (.int (0 : Int32)) := (Fld.keep (Fld.ext E13 Fl12) K24 (ninS (Nat.ne_of_lt lt_b1_b13) nin0))
  have E12_27 : Exa Z T24.heap b1 "com/example/wayfold/wayfold/engine/DayTiming$Timeline" := (Exa.keep (Exa.ext E13 E12) K24)
  refine own_putF X24 hx hZ hown (own_w hw 31 rfl) Via.refl rfl Fl12_26 E12_27 (Or.inl (own_w hw 32 rfl)) (own_w hw 3 rfl) (ty := .int) (by decide) rfl rfl (hb hby at_48) ?_
  intro T25 h25 X25 e25 W25
  have F25 := Fld.same W25 Fl12_26
  have N25 := Fr.snoc X25 N24 g_b1
  have sz25 : n0 ≤ h25.size := Nat.le_trans sz24 (Keep.of_wr W25).1
  show own_Go p e below _ T25 (mkF m 51 #[.val (.int p1), .val (.int p2), .val (.int p3), .val (.int p4), .val (.int p5), .val (.int p6), .val (.int len), .val (.int src), .val (.int old), .val (.ref b1), .val (.ref b13)] [])
  refine own_by (fun t_ k_ => XS.aload X25.here hx rfl (hb hby at_51) rfl rfl k_) ?_
  show own_Go p e below _ T25 (mkF m 53 #[.val (.int p1), .val (.int p2), .val (.int p3), .val (.int p4), .val (.int p5), .val (.int p6), .val (.int len), .val (.int src), .val (.int old), .val (.ref b1), .val (.ref b13)] [(.ref b1)])
  have F12_29 : Fld Z h25 b1 "com/example/wayfold/wayfold/engine/DayTiming$Timeline" "nodes" "[I" (.ref b12_0) := (Fld.other W25 (Fld.keep (Fld.ext E13 F12_0) K24 (ninS (Nat.ne_of_lt lt_b1_b13) nin0)) (Or.inr (slot_ne (Or.inr (own_w hw 13 rfl)) (Or.inl (own_w hw 32 rfl)) (by decide) (t := (.array .int)) (t' := .int) (by decide) (by decide))))
  refine own_getF X25 hx hZ hown (own_w hw 33 rfl) Via.refl e25 F12_29 (hb hby at_53) ?_
  intro T28 X28 e28
  show own_Go p e below _ T28 (mkF m 56 #[.val (.int p1), .val (.int p2), .val (.int p3), .val (.int p4), .val (.int p5), .val (.int p6), .val (.int len), .val (.int src), .val (.int old), .val (.ref b1), .val (.ref b13)] [(.ref b12_0)])
  refine own_by (fun t_ k_ => XS.iconst X28.here hx rfl (hb hby at_56) k_) ?_
  show own_Go p e below _ T28 (mkF m 57 #[.val (.int p1), .val (.int p2), .val (.int p3), .val (.int p4), .val (.int p5), .val (.int p6), .val (.int len), .val (.int src), .val (.int old), .val (.ref b1), .val (.ref b13)] [(.int (0 : Int32)), (.ref b12_0)])
  refine own_by (fun t_ k_ => XS.iloadN X28.here hx rfl (hb hby at_57) rfl k_) ?_
  show own_Go p e below _ T28 (mkF m 58 #[.val (.int p1), .val (.int p2), .val (.int p3), .val (.int p4), .val (.int p5), .val (.int p6), .val (.int len), .val (.int src), .val (.int old), .val (.ref b1), .val (.ref b13)] [(.int p2), (.int (0 : Int32)), (.ref b12_0)])
  have n31 : b1 ≠ b12_0 := Nat.ne_of_lt lx12
  have V12_32 : own_Arr Z h25 b12_0 .int [(.int (0 : Int32)), (.int (0 : Int32))] := (own_Arr.other (own_Arr.keep (own_Arr.ext V12_0 E13) K24 (ninS (Nat.ne_of_lt lt_b12_0_b13) nin0)) W25 (Ne.symm n31))
  refine own_iastore X28 hx hZ e28 V12_32 0 (by decide) (Nat.le_of_ble_eq_true rfl) (hb hby at_58) ?_
  intro T30 h30 X30 e30 W30 A30
  have V30_0 : own_Arr Z h30 b12_0 .int [(.int p2), (.int (0 : Int32))] := A30
  have N30 := Fr.snoc X30 N25 g_b12_0
  have sz30 : n0 ≤ h30.size := Nat.le_trans sz25 (Keep.of_wr W30).1
  show own_Go p e below _ T30 (mkF m 59 #[.val (.int p1), .val (.int p2), .val (.int p3), .val (.int p4), .val (.int p5), .val (.int p6), .val (.int len), .val (.int src), .val (.int old), .val (.ref b1), .val (.ref b13)] [])
  refine own_by (fun t_ k_ => XS.aload X30.here hx rfl (hb hby at_59) rfl rfl k_) ?_
  show own_Go p e below _ T30 (mkF m 61 #[.val (.int p1), .val (.int p2), .val (.int p3), .val (.int p4), .val (.int p5), .val (.int p6), .val (.int len), .val (.int src), .val (.int old), .val (.ref b1), .val (.ref b13)] [(.ref b1)])
  have F12_34 : Fld Z h30 b1 "com/example/wayfold/wayfold/engine/DayTiming$Timeline" "nodes" "[I" (.ref b12_0) := (Fld.other W30 F12_29 (Or.inl n31))
  refine own_getF X30 hx hZ hown (own_w hw 33 rfl) Via.refl e30 F12_34 (hb hby at_61) ?_
  intro T33 X33 e33
  show own_Go p e below _ T33 (mkF m 64 #[.val (.int p1), .val (.int p2), .val (.int p3), .val (.int p4), .val (.int p5), .val (.int p6), .val (.int len), .val (.int src), .val (.int old), .val (.ref b1), .val (.ref b13)] [(.ref b12_0)])
  refine own_by (fun t_ k_ => XS.iconst X33.here hx rfl (hb hby at_64) k_) ?_
  show own_Go p e below _ T33 (mkF m 65 #[.val (.int p1), .val (.int p2), .val (.int p3), .val (.int p4), .val (.int p5), .val (.int p6), .val (.int len), .val (.int src), .val (.int old), .val (.ref b1), .val (.ref b13)] [(.int (1 : Int32)), (.ref b12_0)])
  refine own_by (fun t_ k_ => XS.iloadN X33.here hx rfl (hb hby at_65) rfl k_) ?_
  show own_Go p e below _ T33 (mkF m 66 #[.val (.int p1), .val (.int p2), .val (.int p3), .val (.int p4), .val (.int p5), .val (.int p6), .val (.int len), .val (.int src), .val (.int old), .val (.ref b1), .val (.ref b13)] [(.int p3), (.int (1 : Int32)), (.ref b12_0)])
  refine own_iastore X33 hx hZ e33 V30_0 1 (by decide) (Nat.le_of_ble_eq_true rfl) (hb hby at_66) ?_
  intro T35 h35 X35 e35 W35 A35
  have V35_0 : own_Arr Z h35 b12_0 .int [(.int p2), (.int p3)] := A35
  have N35 := Fr.snoc X35 N30 g_b12_0
  have sz35 : n0 ≤ h35.size := Nat.le_trans sz30 (Keep.of_wr W35).1
  show own_Go p e below _ T35 (mkF m 67 #[.val (.int p1), .val (.int p2), .val (.int p3), .val (.int p4), .val (.int p5), .val (.int p6), .val (.int len), .val (.int src), .val (.int old), .val (.ref b1), .val (.ref b13)] [])
  refine own_by (fun t_ k_ => XS.aload X35.here hx rfl (hb hby at_67) rfl rfl k_) ?_
  show own_Go p e below _ T35 (mkF m 69 #[.val (.int p1), .val (.int p2), .val (.int p3), .val (.int p4), .val (.int p5), .val (.int p6), .val (.int len), .val (.int src), .val (.int old), .val (.ref b1), .val (.ref b13)] [(.ref b1)])
  refine own_by (fun t_ k_ => XS.iload X35.here hx rfl (hb hby at_69) rfl k_) ?_
  show own_Go p e below _ T35 (mkF m 71 #[.val (.int p1), .val (.int p2), .val (.int p3), .val (.int p4), .val (.int p5), .val (.int p6), .val (.int len), .val (.int src), .val (.int old), .val (.ref b1), .val (.ref b13)] [(.int src), (.ref b1)])
  refine own_by (fun t_ k_ => XS.iconst X35.here hx rfl (hb hby at_71) k_) ?_
  show own_Go p e below _ T35 (mkF m 72 #[.val (.int p1), .val (.int p2), .val (.int p3), .val (.int p4), .val (.int p5), .val (.int p6), .val (.int len), .val (.int src), .val (.int old), .val (.ref b1), .val (.ref b13)] [(.int (3 : Int32)), (.int src), (.ref b1)])
  have F12_36 : Fld Z h35 b1 "com/example/wayfold/wayfold/engine/DayTiming$Timeline" "leave" "[D" (.ref b12_1) := (Fld.other W35 (Fld.other W30 (Fld.other W25 (Fld.keep (Fld.ext E13 F12_1) K24 (ninS (Nat.ne_of_lt lt_b1_b13) nin0)) (Or.inr (slot_ne (Or.inr (own_w hw 16 rfl)) (Or.inl (own_w hw 32 rfl)) (by decide) (t := (.array .double)) (t' := .int) (by decide) (by decide)))) (Or.inl n31)) (Or.inl n31))
  have F12_37 : Fld Z h35 b1 "com/example/wayfold/wayfold/engine/DayTiming$Timeline" "interest" "[D" (.ref b12_2) := (Fld.other W35 (Fld.other W30 (Fld.other W25 (Fld.keep (Fld.ext E13 F12_2) K24 (ninS (Nat.ne_of_lt lt_b1_b13) nin0)) (Or.inr (slot_ne (Or.inr (own_w hw 18 rfl)) (Or.inl (own_w hw 32 rfl)) (by decide) (t := (.array .double)) (t' := .int) (by decide) (by decide)))) (Or.inl n31)) (Or.inl n31))
  have F12_38 : Fld Z h35 b1 "com/example/wayfold/wayfold/engine/DayTiming$Timeline" "travel" "[D" (.ref b12_3) := (Fld.other W35 (Fld.other W30 (Fld.other W25 (Fld.keep (Fld.ext E13 F12_3) K24 (ninS (Nat.ne_of_lt lt_b1_b13) nin0)) (Or.inr (slot_ne (Or.inr (own_w hw 20 rfl)) (Or.inl (own_w hw 32 rfl)) (by decide) (t := (.array .double)) (t' := .int) (by decide) (by decide)))) (Or.inl n31)) (Or.inl n31))
  have F12_39 : Fld Z h35 b1 "com/example/wayfold/wayfold/engine/DayTiming$Timeline" "visit" "[D" (.ref b12_4) := (Fld.other W35 (Fld.other W30 (Fld.other W25 (Fld.keep (Fld.ext E13 F12_4) K24 (ninS (Nat.ne_of_lt lt_b1_b13) nin0)) (Or.inr (slot_ne (Or.inr (own_w hw 22 rfl)) (Or.inl (own_w hw 32 rfl)) (by decide) (t := (.array .double)) (t' := .int) (by decide) (by decide)))) (Or.inl n31)) (Or.inl n31))
  have F12_40 : Fld Z h35 b1 "com/example/wayfold/wayfold/engine/DayTiming$Timeline" "waiting" "[D" (.ref b12_5) := (Fld.other W35 (Fld.other W30 (Fld.other W25 (Fld.keep (Fld.ext E13 F12_5) K24 (ninS (Nat.ne_of_lt lt_b1_b13) nin0)) (Or.inr (slot_ne (Or.inr (own_w hw 24 rfl)) (Or.inl (own_w hw 32 rfl)) (by decide) (t := (.array .double)) (t' := .int) (by decide) (by decide)))) (Or.inl n31)) (Or.inl n31))
  have F12_41 : Fld Z h35 b1 "com/example/wayfold/wayfold/engine/DayTiming$Timeline" "load" "[D" (.ref b12_6) := (Fld.other W35 (Fld.other W30 (Fld.other W25 (Fld.keep (Fld.ext E13 F12_6) K24 (ninS (Nat.ne_of_lt lt_b1_b13) nin0)) (Or.inr (slot_ne (Or.inr (own_w hw 26 rfl)) (Or.inl (own_w hw 32 rfl)) (by decide) (t := (.array .double)) (t' := .int) (by decide) (by decide)))) (Or.inl n31)) (Or.inl n31))
  have F12_42 : Fld Z h35 b1 "com/example/wayfold/wayfold/engine/DayTiming$Timeline" "latest" "[D" (.ref b12_7) := (Fld.other W35 (Fld.other W30 (Fld.other W25 (Fld.keep (Fld.ext E13 F12_7) K24 (ninS (Nat.ne_of_lt lt_b1_b13) nin0)) (Or.inr (slot_ne (Or.inr (own_w hw 28 rfl)) (Or.inl (own_w hw 32 rfl)) (by decide) (t := (.array .double)) (t' := .int) (by decide) (by decide)))) (Or.inl n31)) (Or.inl n31))
  have F12_43 : Fld Z h35 b1 "com/example/wayfold/wayfold/engine/DayTiming$Timeline" "best" "[D" (.ref b12_8) := (Fld.other W35 (Fld.other W30 (Fld.other W25 (Fld.keep (Fld.ext E13 F12_8) K24 (ninS (Nat.ne_of_lt lt_b1_b13) nin0)) (Or.inr (slot_ne (Or.inr (own_w hw 30 rfl)) (Or.inl (own_w hw 32 rfl)) (by decide) (t := (.array .double)) (t' := .int) (by decide) (by decide)))) (Or.inl n31)) (Or.inl n31))
  have n44 : b1 ≠ b12_1 := Nat.ne_of_lt (Nat.lt_trans lx12 q12_0)
  have n45 : b12_0 ≠ b12_1 := Nat.ne_of_lt q12_0
  have V12_46 : own_Arr Z h35 b12_1 .double [(.double (0 : UInt64)), (.double (0 : UInt64)), (.double (0 : UInt64))] := (own_Arr.other (own_Arr.other (own_Arr.other (own_Arr.keep (own_Arr.ext V12_1 E13) K24 (ninS (Nat.ne_of_lt lt_b12_1_b13) nin0)) W25 (Ne.symm n44)) W30 (Ne.symm n45)) W35 (Ne.symm n45))
  have n47 : b1 ≠ b12_2 := Nat.ne_of_lt (Nat.lt_trans lx12 (Nat.lt_trans q12_0 q12_1))
  have n48 : b12_0 ≠ b12_2 := Nat.ne_of_lt (Nat.lt_trans q12_0 q12_1)
  have V12_49 : own_Arr Z h35 b12_2 .double [(.double (0 : UInt64)), (.double (0 : UInt64)), (.double (0 : UInt64))] := (own_Arr.other (own_Arr.other (own_Arr.other (own_Arr.keep (own_Arr.ext V12_2 E13) K24 (ninS (Nat.ne_of_lt lt_b12_2_b13) nin0)) W25 (Ne.symm n47)) W30 (Ne.symm n48)) W35 (Ne.symm n48))
  have n50 : b1 ≠ b12_3 := Nat.ne_of_lt (Nat.lt_trans lx12 (Nat.lt_trans q12_0 (Nat.lt_trans q12_1 q12_2)))
  have n51 : b12_0 ≠ b12_3 := Nat.ne_of_lt (Nat.lt_trans q12_0 (Nat.lt_trans q12_1 q12_2))
  have V12_52 : own_Arr Z h35 b12_3 .double [(.double (0 : UInt64)), (.double (0 : UInt64)), (.double (0 : UInt64))] := (own_Arr.other (own_Arr.other (own_Arr.other (own_Arr.keep (own_Arr.ext V12_3 E13) K24 (ninS (Nat.ne_of_lt lt_b12_3_b13) nin0)) W25 (Ne.symm n50)) W30 (Ne.symm n51)) W35 (Ne.symm n51))
  have n53 : b1 ≠ b12_4 := Nat.ne_of_lt (Nat.lt_trans lx12 (Nat.lt_trans q12_0 (Nat.lt_trans q12_1 (Nat.lt_trans q12_2 q12_3))))
  have n54 : b12_0 ≠ b12_4 := Nat.ne_of_lt (Nat.lt_trans q12_0 (Nat.lt_trans q12_1 (Nat.lt_trans q12_2 q12_3)))
  have V12_55 : own_Arr Z h35 b12_4 .double [(.double (0 : UInt64)), (.double (0 : UInt64)), (.double (0 : UInt64))] := (own_Arr.other (own_Arr.other (own_Arr.other (own_Arr.keep (own_Arr.ext V12_4 E13) K24 (ninS (Nat.ne_of_lt lt_b12_4_b13) nin0)) W25 (Ne.symm n53)) W30 (Ne.symm n54)) W35 (Ne.symm n54))
  have n56 : b1 ≠ b12_5 := Nat.ne_of_lt (Nat.lt_trans lx12 (Nat.lt_trans q12_0 (Nat.lt_trans q12_1 (Nat.lt_trans q12_2 (Nat.lt_trans q12_3 q12_4)))))
  have n57 : b12_0 ≠ b12_5 := Nat.ne_of_lt (Nat.lt_trans q12_0 (Nat.lt_trans q12_1 (Nat.lt_trans q12_2 (Nat.lt_trans q12_3 q12_4))))
  have V12_58 : own_Arr Z h35 b12_5 .double [(.double (0 : UInt64)), (.double (0 : UInt64)), (.double (0 : UInt64))] := (own_Arr.other (own_Arr.other (own_Arr.other (own_Arr.keep (own_Arr.ext V12_5 E13) K24 (ninS (Nat.ne_of_lt lt_b12_5_b13) nin0)) W25 (Ne.symm n56)) W30 (Ne.symm n57)) W35 (Ne.symm n57))
  have n59 : b1 ≠ b12_6 := Nat.ne_of_lt (Nat.lt_trans lx12 (Nat.lt_trans q12_0 (Nat.lt_trans q12_1 (Nat.lt_trans q12_2 (Nat.lt_trans q12_3 (Nat.lt_trans q12_4 q12_5))))))
  have n60 : b12_0 ≠ b12_6 := Nat.ne_of_lt (Nat.lt_trans q12_0 (Nat.lt_trans q12_1 (Nat.lt_trans q12_2 (Nat.lt_trans q12_3 (Nat.lt_trans q12_4 q12_5)))))
  have V12_61 : own_Arr Z h35 b12_6 .double [(.double (0 : UInt64)), (.double (0 : UInt64)), (.double (0 : UInt64))] := (own_Arr.other (own_Arr.other (own_Arr.other (own_Arr.keep (own_Arr.ext V12_6 E13) K24 (ninS (Nat.ne_of_lt lt_b12_6_b13) nin0)) W25 (Ne.symm n59)) W30 (Ne.symm n60)) W35 (Ne.symm n60))
  have n62 : b1 ≠ b12_7 := Nat.ne_of_lt (Nat.lt_trans lx12 (Nat.lt_trans q12_0 (Nat.lt_trans q12_1 (Nat.lt_trans q12_2 (Nat.lt_trans q12_3 (Nat.lt_trans q12_4 (Nat.lt_trans q12_5 q12_6)))))))
  have n63 : b12_0 ≠ b12_7 := Nat.ne_of_lt (Nat.lt_trans q12_0 (Nat.lt_trans q12_1 (Nat.lt_trans q12_2 (Nat.lt_trans q12_3 (Nat.lt_trans q12_4 (Nat.lt_trans q12_5 q12_6))))))
  have V12_64 : own_Arr Z h35 b12_7 .double [(.double (0 : UInt64)), (.double (0 : UInt64)), (.double (0 : UInt64))] := (own_Arr.other (own_Arr.other (own_Arr.other (own_Arr.keep (own_Arr.ext V12_7 E13) K24 (ninS (Nat.ne_of_lt lt_b12_7_b13) nin0)) W25 (Ne.symm n62)) W30 (Ne.symm n63)) W35 (Ne.symm n63))
  have n65 : b1 ≠ b12_8 := Nat.ne_of_lt (Nat.lt_trans lx12 (Nat.lt_trans q12_0 (Nat.lt_trans q12_1 (Nat.lt_trans q12_2 (Nat.lt_trans q12_3 (Nat.lt_trans q12_4 (Nat.lt_trans q12_5 (Nat.lt_trans q12_6 q12_7))))))))
  have n66 : b12_0 ≠ b12_8 := Nat.ne_of_lt (Nat.lt_trans q12_0 (Nat.lt_trans q12_1 (Nat.lt_trans q12_2 (Nat.lt_trans q12_3 (Nat.lt_trans q12_4 (Nat.lt_trans q12_5 (Nat.lt_trans q12_6 q12_7)))))))
  have V12_67 : own_Arr Z h35 b12_8 .double [(.double (0 : UInt64)), (.double (0 : UInt64)), (.double (0 : UInt64))] := (own_Arr.other (own_Arr.other (own_Arr.other (own_Arr.keep (own_Arr.ext V12_8 E13) K24 (ninS (Nat.ne_of_lt lt_b12_8_b13) nin0)) W25 (Ne.symm n65)) W30 (Ne.symm n66)) W35 (Ne.symm n66))
  refine own_callS (W := 0) X35 hx hZ (y := (⟨"com/example/wayfold/wayfold/engine/TimelineCopyPinLaw", "fillAll", "(Lcom/example/wayfold/wayfold/engine/DayTiming$Timeline;II)V"⟩ : MethodName)) hown (own_w hw 34 rfl) (own_w hw 35 rfl) (own_w hw 36 rfl) (own_w hw 37 rfl) (by decide) (by rw [hml]; rfl) (argsL := [(.ref b1), (.int src), (.int (3 : Int32))]) pd_2 rfl (rm3 l Z a0 hw [] b1 src (3 : Int32) b12_1 b12_2 b12_3 b12_4 b12_5 b12_6 b12_7 b12_8 (.double (0 : UInt64)) (.double (0 : UInt64)) (.double (0 : UInt64)) (.double (0 : UInt64)) (.double (0 : UInt64)) (.double (0 : UInt64)) (.double (0 : UInt64)) (.double (0 : UInt64)) (.double (0 : UInt64)) (.double (0 : UInt64)) (.double (0 : UInt64)) (.double (0 : UInt64)) (.double (0 : UInt64)) (.double (0 : UInt64)) (.double (0 : UInt64)) (.double (0 : UInt64)) (.double (0 : UInt64)) (.double (0 : UInt64)) (.double (0 : UInt64)) (.double (0 : UInt64)) (.double (0 : UInt64)) (.double (0 : UInt64)) (.double (0 : UInt64)) (.double (0 : UInt64)) h35 n0 sz35 F12_36 F12_37 F12_38 F12_39 F12_40 F12_41 F12_42 F12_43 V12_46 V12_49 V12_52 V12_55 V12_58 V12_61 V12_64 V12_67 (Nat.lt_trans lx12 q12_0) q12_1 q12_2 q12_3 q12_4 q12_5 q12_6 q12_7 g_b12_1 g_b12_2 g_b12_3 g_b12_4 g_b12_5 g_b12_6 g_b12_7 g_b12_8) (by decide) (by decide) (Nat.le_of_eq rfl) (by decide) (by decide) (rest := []) e35 rfl (hb hby at_72) ?_
  intro v68 T68 L68 X68 hQ68
  obtain ⟨rfl, N68q, K68, V68_0, V68_1, V68_2, V68_3, V68_4, V68_5, V68_6, V68_7⟩ := hQ68
  have N68 := Fr.app N35 N68q
  have sz68 : n0 ≤ T68.heap.size := Nat.le_trans sz35 K68.1
  show own_Go p e below _ T68 (mkF m 75 #[.val (.int p1), .val (.int p2), .val (.int p3), .val (.int p4), .val (.int p5), .val (.int p6), .val (.int len), .val (.int src), .val (.int old), .val (.ref b1), .val (.ref b13)] [])
  refine own_by (fun t_ k_ => XS.aload X68.here hx rfl (hb hby at_75) rfl rfl k_) ?_
  show own_Go p e below _ T68 (mkF m 77 #[.val (.int p1), .val (.int p2), .val (.int p3), .val (.int p4), .val (.int p5), .val (.int p6), .val (.int len), .val (.int src), .val (.int old), .val (.ref b1), .val (.ref b13)] [(.ref b13)])
  refine own_by (fun t_ k_ => XS.iload X68.here hx rfl (hb hby at_77) rfl k_) ?_
  show own_Go p e below _ T68 (mkF m 79 #[.val (.int p1), .val (.int p2), .val (.int p3), .val (.int p4), .val (.int p5), .val (.int p6), .val (.int len), .val (.int src), .val (.int old), .val (.ref b1), .val (.ref b13)] [(.int p6), (.ref b13)])
  refine own_by (fun t_ k_ => X68.ldcInt hx hown (mvT hZ (own_w hw 0 rfl)) (g := (mkF m 79 #[.val (.int p1), .val (.int p2), .val (.int p3), .val (.int p4), .val (.int p5), .val (.int p6), .val (.int len), .val (.int src), .val (.int old), .val (.ref b1), .val (.ref b13)] [(.int p6), (.ref b13)])) rfl (hb hby at_79) _ k_) ?_
  show own_Go p e below _ T68 (mkF m 81 #[.val (.int p1), .val (.int p2), .val (.int p3), .val (.int p4), .val (.int p5), .val (.int p6), .val (.int len), .val (.int src), .val (.int old), .val (.ref b1), .val (.ref b13)] [(.int (2147483647 : Int32)), (.int p6), (.ref b13)])
  refine own_by (fun t_ k_ => XS.iand X68.here hx rfl (hb hby at_81) rfl k_) ?_
  show own_Go p e below _ T68 (mkF m 82 #[.val (.int p1), .val (.int p2), .val (.int p3), .val (.int p4), .val (.int p5), .val (.int p6), .val (.int len), .val (.int src), .val (.int old), .val (.ref b1), .val (.ref b13)] [(.int (p6 &&& (2147483647 : Int32))), (.ref b13)])
  refine own_by (fun t_ k_ => XS.iconst X68.here hx rfl (hb hby at_82) k_) ?_
  show own_Go p e below _ T68 (mkF m 83 #[.val (.int p1), .val (.int p2), .val (.int p3), .val (.int p4), .val (.int p5), .val (.int p6), .val (.int len), .val (.int src), .val (.int old), .val (.ref b1), .val (.ref b13)] [(.int (3 : Int32)), (.int (p6 &&& (2147483647 : Int32))), (.ref b13)])
  refine own_by (fun t_ k_ => iremM X68 hx rfl (hb hby at_83) rfl (by decide) k_) ?_
  show own_Go p e below _ T68 (mkF m 84 #[.val (.int p1), .val (.int p2), .val (.int p3), .val (.int p4), .val (.int p5), .val (.int p6), .val (.int len), .val (.int src), .val (.int old), .val (.ref b1), .val (.ref b13)] [(.int ((p6 &&& (2147483647 : Int32)) % (3 : Int32))), (.ref b13)])
  have Fl24_70 : Fld Z T68.heap b13 "com/example/wayfold/wayfold/engine/DayTiming$Timeline" "length" "I" (.int (0 : Int32)) := (Fld.keep (Fld.other W35 (Fld.other W30 (Fld.other W25 Fl24 (Or.inl (Ne.symm (Nat.ne_of_lt lt_b1_b13)))) (Or.inl (Ne.symm (Nat.ne_of_lt lt_b12_0_b13)))) (Or.inl (Ne.symm (Nat.ne_of_lt lt_b12_0_b13)))) K68 (ninS (Ne.symm (Nat.ne_of_lt lt_b12_1_b13)) (ninS (Ne.symm (Nat.ne_of_lt lt_b12_2_b13)) (ninS (Ne.symm (Nat.ne_of_lt lt_b12_3_b13)) (ninS (Ne.symm (Nat.ne_of_lt lt_b12_4_b13)) (ninS (Ne.symm (Nat.ne_of_lt lt_b12_5_b13)) (ninS (Ne.symm (Nat.ne_of_lt lt_b12_6_b13)) (ninS (Ne.symm (Nat.ne_of_lt lt_b12_7_b13)) (ninS (Ne.symm (Nat.ne_of_lt lt_b12_8_b13)) nin0)))))))))
  have E24_71 : Exa Z T68.heap b13 "com/example/wayfold/wayfold/engine/DayTiming$Timeline" := (Exa.keep (Exa.wr W35 (Exa.wr W30 (Exa.wr W25 E24))) K68)
  refine own_putF X68 hx hZ hown (own_w hw 31 rfl) Via.refl rfl Fl24_70 E24_71 (Or.inl (own_w hw 32 rfl)) (own_w hw 3 rfl) (ty := .int) (by decide) rfl rfl (hb hby at_84) ?_
  intro T69 h69 X69 e69 W69
  have F69 := Fld.same W69 Fl24_70
  have N69 := Fr.snoc X69 N68 g_b13
  have sz69 : n0 ≤ h69.size := Nat.le_trans sz68 (Keep.of_wr W69).1
  show own_Go p e below _ T69 (mkF m 87 #[.val (.int p1), .val (.int p2), .val (.int p3), .val (.int p4), .val (.int p5), .val (.int p6), .val (.int len), .val (.int src), .val (.int old), .val (.ref b1), .val (.ref b13)] [])
  refine own_by (fun t_ k_ => XS.aload X69.here hx rfl (hb hby at_87) rfl rfl k_) ?_
  show own_Go p e below _ T69 (mkF m 89 #[.val (.int p1), .val (.int p2), .val (.int p3), .val (.int p4), .val (.int p5), .val (.int p6), .val (.int len), .val (.int src), .val (.int old), .val (.ref b1), .val (.ref b13)] [(.ref b13)])
  have F24_73 : Fld Z h69 b13 "com/example/wayfold/wayfold/engine/DayTiming$Timeline" "nodes" "[I" (.ref b24_0) := (Fld.other W69 (Fld.keep (Fld.other W35 (Fld.other W30 (Fld.other W25 F24_0 (Or.inl (Ne.symm (Nat.ne_of_lt lt_b1_b13)))) (Or.inl (Ne.symm (Nat.ne_of_lt lt_b12_0_b13)))) (Or.inl (Ne.symm (Nat.ne_of_lt lt_b12_0_b13)))) K68 (ninS (Ne.symm (Nat.ne_of_lt lt_b12_1_b13)) (ninS (Ne.symm (Nat.ne_of_lt lt_b12_2_b13)) (ninS (Ne.symm (Nat.ne_of_lt lt_b12_3_b13)) (ninS (Ne.symm (Nat.ne_of_lt lt_b12_4_b13)) (ninS (Ne.symm (Nat.ne_of_lt lt_b12_5_b13)) (ninS (Ne.symm (Nat.ne_of_lt lt_b12_6_b13)) (ninS (Ne.symm (Nat.ne_of_lt lt_b12_7_b13)) (ninS (Ne.symm (Nat.ne_of_lt lt_b12_8_b13)) nin0))))))))) (Or.inr (slot_ne (Or.inr (own_w hw 13 rfl)) (Or.inl (own_w hw 32 rfl)) (by decide) (t := (.array .int)) (t' := .int) (by decide) (by decide))))
  refine own_getF X69 hx hZ hown (own_w hw 33 rfl) Via.refl e69 F24_73 (hb hby at_89) ?_
  intro T72 X72 e72
  show own_Go p e below _ T72 (mkF m 92 #[.val (.int p1), .val (.int p2), .val (.int p3), .val (.int p4), .val (.int p5), .val (.int p6), .val (.int len), .val (.int src), .val (.int old), .val (.ref b1), .val (.ref b13)] [(.ref b24_0)])
  refine own_by (fun t_ k_ => XS.iconst X72.here hx rfl (hb hby at_92) k_) ?_
  show own_Go p e below _ T72 (mkF m 93 #[.val (.int p1), .val (.int p2), .val (.int p3), .val (.int p4), .val (.int p5), .val (.int p6), .val (.int len), .val (.int src), .val (.int old), .val (.ref b1), .val (.ref b13)] [(.int (0 : Int32)), (.ref b24_0)])
  refine own_by (fun t_ k_ => XS.iloadN X72.here hx rfl (hb hby at_93) rfl k_) ?_
  show own_Go p e below _ T72 (mkF m 94 #[.val (.int p1), .val (.int p2), .val (.int p3), .val (.int p4), .val (.int p5), .val (.int p6), .val (.int len), .val (.int src), .val (.int old), .val (.ref b1), .val (.ref b13)] [(.int p2), (.int (0 : Int32)), (.ref b24_0)])
  refine own_by (fun t_ k_ => XS.iconst X72.here hx rfl (hb hby at_94) k_) ?_
  show own_Go p e below _ T72 (mkF m 95 #[.val (.int p1), .val (.int p2), .val (.int p3), .val (.int p4), .val (.int p5), .val (.int p6), .val (.int len), .val (.int src), .val (.int old), .val (.ref b1), .val (.ref b13)] [(.int (-1 : Int32)), (.int p2), (.int (0 : Int32)), (.ref b24_0)])
  refine own_by (fun t_ k_ => XT.ixor X72.here hx rfl (hb hby at_95) rfl k_) ?_
  show own_Go p e below _ T72 (mkF m 96 #[.val (.int p1), .val (.int p2), .val (.int p3), .val (.int p4), .val (.int p5), .val (.int p6), .val (.int len), .val (.int src), .val (.int old), .val (.ref b1), .val (.ref b13)] [(.int (p2 ^^^ (-1 : Int32))), (.int (0 : Int32)), (.ref b24_0)])
  have n75 : b1 ≠ b24_0 := Nat.ne_of_lt (Nat.lt_trans lx12 (Nat.lt_trans q12_0 (Nat.lt_trans q12_1 (Nat.lt_trans q12_2 (Nat.lt_trans q12_3 (Nat.lt_trans q12_4 (Nat.lt_trans q12_5 (Nat.lt_trans q12_6 (Nat.lt_trans q12_7 (Nat.lt_trans lt_b12_8_b13 lx24))))))))))
  have n76 : b12_0 ≠ b24_0 := Nat.ne_of_lt (Nat.lt_trans q12_0 (Nat.lt_trans q12_1 (Nat.lt_trans q12_2 (Nat.lt_trans q12_3 (Nat.lt_trans q12_4 (Nat.lt_trans q12_5 (Nat.lt_trans q12_6 (Nat.lt_trans q12_7 (Nat.lt_trans lt_b12_8_b13 lx24)))))))))
  have n77 : b12_8 ≠ b24_0 := Nat.ne_of_lt (Nat.lt_trans lt_b12_8_b13 lx24)
  have n78 : b12_7 ≠ b24_0 := Nat.ne_of_lt (Nat.lt_trans q12_7 (Nat.lt_trans lt_b12_8_b13 lx24))
  have n79 : b12_6 ≠ b24_0 := Nat.ne_of_lt (Nat.lt_trans q12_6 (Nat.lt_trans q12_7 (Nat.lt_trans lt_b12_8_b13 lx24)))
  have n80 : b12_5 ≠ b24_0 := Nat.ne_of_lt (Nat.lt_trans q12_5 (Nat.lt_trans q12_6 (Nat.lt_trans q12_7 (Nat.lt_trans lt_b12_8_b13 lx24))))
  have n81 : b12_4 ≠ b24_0 := Nat.ne_of_lt (Nat.lt_trans q12_4 (Nat.lt_trans q12_5 (Nat.lt_trans q12_6 (Nat.lt_trans q12_7 (Nat.lt_trans lt_b12_8_b13 lx24)))))
  have n82 : b12_3 ≠ b24_0 := Nat.ne_of_lt (Nat.lt_trans q12_3 (Nat.lt_trans q12_4 (Nat.lt_trans q12_5 (Nat.lt_trans q12_6 (Nat.lt_trans q12_7 (Nat.lt_trans lt_b12_8_b13 lx24))))))
  have n83 : b12_2 ≠ b24_0 := Nat.ne_of_lt (Nat.lt_trans q12_2 (Nat.lt_trans q12_3 (Nat.lt_trans q12_4 (Nat.lt_trans q12_5 (Nat.lt_trans q12_6 (Nat.lt_trans q12_7 (Nat.lt_trans lt_b12_8_b13 lx24)))))))
  have n84 : b12_1 ≠ b24_0 := Nat.ne_of_lt (Nat.lt_trans q12_1 (Nat.lt_trans q12_2 (Nat.lt_trans q12_3 (Nat.lt_trans q12_4 (Nat.lt_trans q12_5 (Nat.lt_trans q12_6 (Nat.lt_trans q12_7 (Nat.lt_trans lt_b12_8_b13 lx24))))))))
  have n85 : b13 ≠ b24_0 := Nat.ne_of_lt lx24
  have V24_86 : own_Arr Z h69 b24_0 .int [(.int (0 : Int32)), (.int (0 : Int32))] := (own_Arr.other (own_Arr.keep (own_Arr.other (own_Arr.other (own_Arr.other V24_0 W25 (Ne.symm n75)) W30 (Ne.symm n76)) W35 (Ne.symm n76)) K68 (ninS (Ne.symm n84) (ninS (Ne.symm n83) (ninS (Ne.symm n82) (ninS (Ne.symm n81) (ninS (Ne.symm n80) (ninS (Ne.symm n79) (ninS (Ne.symm n78) (ninS (Ne.symm n77) nin0))))))))) W69 (Ne.symm n85))
  refine own_iastore X72 hx hZ e72 V24_86 0 (by decide) (Nat.le_of_ble_eq_true rfl) (hb hby at_96) ?_
  intro T74 h74 X74 e74 W74 A74
  have V74_0 : own_Arr Z h74 b24_0 .int [(.int (p2 ^^^ (-1 : Int32))), (.int (0 : Int32))] := A74
  have N74 := Fr.snoc X74 N69 g_b24_0
  have sz74 : n0 ≤ h74.size := Nat.le_trans sz69 (Keep.of_wr W74).1
  show own_Go p e below _ T74 (mkF m 97 #[.val (.int p1), .val (.int p2), .val (.int p3), .val (.int p4), .val (.int p5), .val (.int p6), .val (.int len), .val (.int src), .val (.int old), .val (.ref b1), .val (.ref b13)] [])
  refine own_by (fun t_ k_ => XS.aload X74.here hx rfl (hb hby at_97) rfl rfl k_) ?_
  show own_Go p e below _ T74 (mkF m 99 #[.val (.int p1), .val (.int p2), .val (.int p3), .val (.int p4), .val (.int p5), .val (.int p6), .val (.int len), .val (.int src), .val (.int old), .val (.ref b1), .val (.ref b13)] [(.ref b13)])
  have F24_88 : Fld Z h74 b13 "com/example/wayfold/wayfold/engine/DayTiming$Timeline" "nodes" "[I" (.ref b24_0) := (Fld.other W74 F24_73 (Or.inl n85))
  refine own_getF X74 hx hZ hown (own_w hw 33 rfl) Via.refl e74 F24_88 (hb hby at_99) ?_
  intro T87 X87 e87
  show own_Go p e below _ T87 (mkF m 102 #[.val (.int p1), .val (.int p2), .val (.int p3), .val (.int p4), .val (.int p5), .val (.int p6), .val (.int len), .val (.int src), .val (.int old), .val (.ref b1), .val (.ref b13)] [(.ref b24_0)])
  refine own_by (fun t_ k_ => XS.iconst X87.here hx rfl (hb hby at_102) k_) ?_
  show own_Go p e below _ T87 (mkF m 103 #[.val (.int p1), .val (.int p2), .val (.int p3), .val (.int p4), .val (.int p5), .val (.int p6), .val (.int len), .val (.int src), .val (.int old), .val (.ref b1), .val (.ref b13)] [(.int (1 : Int32)), (.ref b24_0)])
  refine own_by (fun t_ k_ => XS.iloadN X87.here hx rfl (hb hby at_103) rfl k_) ?_
  show own_Go p e below _ T87 (mkF m 104 #[.val (.int p1), .val (.int p2), .val (.int p3), .val (.int p4), .val (.int p5), .val (.int p6), .val (.int len), .val (.int src), .val (.int old), .val (.ref b1), .val (.ref b13)] [(.int p3), (.int (1 : Int32)), (.ref b24_0)])
  refine own_by (fun t_ k_ => XS.iconst X87.here hx rfl (hb hby at_104) k_) ?_
  show own_Go p e below _ T87 (mkF m 105 #[.val (.int p1), .val (.int p2), .val (.int p3), .val (.int p4), .val (.int p5), .val (.int p6), .val (.int len), .val (.int src), .val (.int old), .val (.ref b1), .val (.ref b13)] [(.int (-1 : Int32)), (.int p3), (.int (1 : Int32)), (.ref b24_0)])
  refine own_by (fun t_ k_ => XT.ixor X87.here hx rfl (hb hby at_105) rfl k_) ?_
  show own_Go p e below _ T87 (mkF m 106 #[.val (.int p1), .val (.int p2), .val (.int p3), .val (.int p4), .val (.int p5), .val (.int p6), .val (.int len), .val (.int src), .val (.int old), .val (.ref b1), .val (.ref b13)] [(.int (p3 ^^^ (-1 : Int32))), (.int (1 : Int32)), (.ref b24_0)])
  refine own_iastore X87 hx hZ e87 V74_0 1 (by decide) (Nat.le_of_ble_eq_true rfl) (hb hby at_106) ?_
  intro T89 h89 X89 e89 W89 A89
  have V89_0 : own_Arr Z h89 b24_0 .int [(.int (p2 ^^^ (-1 : Int32))), (.int (p3 ^^^ (-1 : Int32)))] := A89
  have N89 := Fr.snoc X89 N74 g_b24_0
  have sz89 : n0 ≤ h89.size := Nat.le_trans sz74 (Keep.of_wr W89).1
  show own_Go p e below _ T89 (mkF m 107 #[.val (.int p1), .val (.int p2), .val (.int p3), .val (.int p4), .val (.int p5), .val (.int p6), .val (.int len), .val (.int src), .val (.int old), .val (.ref b1), .val (.ref b13)] [])
  refine own_by (fun t_ k_ => XS.aload X89.here hx rfl (hb hby at_107) rfl rfl k_) ?_
  show own_Go p e below _ T89 (mkF m 109 #[.val (.int p1), .val (.int p2), .val (.int p3), .val (.int p4), .val (.int p5), .val (.int p6), .val (.int len), .val (.int src), .val (.int old), .val (.ref b1), .val (.ref b13)] [(.ref b13)])
  refine own_by (fun t_ k_ => XS.iload X89.here hx rfl (hb hby at_109) rfl k_) ?_
  show own_Go p e below _ T89 (mkF m 111 #[.val (.int p1), .val (.int p2), .val (.int p3), .val (.int p4), .val (.int p5), .val (.int p6), .val (.int len), .val (.int src), .val (.int old), .val (.ref b1), .val (.ref b13)] [(.int old), (.ref b13)])
  refine own_by (fun t_ k_ => XS.bipush X89.here hx rfl (hb hby at_111) k_) ?_
  show own_Go p e below _ T89 (mkF m 113 #[.val (.int p1), .val (.int p2), .val (.int p3), .val (.int p4), .val (.int p5), .val (.int p6), .val (.int len), .val (.int src), .val (.int old), .val (.ref b1), .val (.ref b13)] [(.int (-3 : Int32)), (.int old), (.ref b13)])
  have F24_90 : Fld Z h89 b13 "com/example/wayfold/wayfold/engine/DayTiming$Timeline" "leave" "[D" (.ref b24_1) := (Fld.other W89 (Fld.other W74 (Fld.other W69 (Fld.keep (Fld.other W35 (Fld.other W30 (Fld.other W25 F24_1 (Or.inl (Ne.symm (Nat.ne_of_lt lt_b1_b13)))) (Or.inl (Ne.symm (Nat.ne_of_lt lt_b12_0_b13)))) (Or.inl (Ne.symm (Nat.ne_of_lt lt_b12_0_b13)))) K68 (ninS (Ne.symm (Nat.ne_of_lt lt_b12_1_b13)) (ninS (Ne.symm (Nat.ne_of_lt lt_b12_2_b13)) (ninS (Ne.symm (Nat.ne_of_lt lt_b12_3_b13)) (ninS (Ne.symm (Nat.ne_of_lt lt_b12_4_b13)) (ninS (Ne.symm (Nat.ne_of_lt lt_b12_5_b13)) (ninS (Ne.symm (Nat.ne_of_lt lt_b12_6_b13)) (ninS (Ne.symm (Nat.ne_of_lt lt_b12_7_b13)) (ninS (Ne.symm (Nat.ne_of_lt lt_b12_8_b13)) nin0))))))))) (Or.inr (slot_ne (Or.inr (own_w hw 16 rfl)) (Or.inl (own_w hw 32 rfl)) (by decide) (t := (.array .double)) (t' := .int) (by decide) (by decide)))) (Or.inl n85)) (Or.inl n85))
  have F24_91 : Fld Z h89 b13 "com/example/wayfold/wayfold/engine/DayTiming$Timeline" "interest" "[D" (.ref b24_2) := (Fld.other W89 (Fld.other W74 (Fld.other W69 (Fld.keep (Fld.other W35 (Fld.other W30 (Fld.other W25 F24_2 (Or.inl (Ne.symm (Nat.ne_of_lt lt_b1_b13)))) (Or.inl (Ne.symm (Nat.ne_of_lt lt_b12_0_b13)))) (Or.inl (Ne.symm (Nat.ne_of_lt lt_b12_0_b13)))) K68 (ninS (Ne.symm (Nat.ne_of_lt lt_b12_1_b13)) (ninS (Ne.symm (Nat.ne_of_lt lt_b12_2_b13)) (ninS (Ne.symm (Nat.ne_of_lt lt_b12_3_b13)) (ninS (Ne.symm (Nat.ne_of_lt lt_b12_4_b13)) (ninS (Ne.symm (Nat.ne_of_lt lt_b12_5_b13)) (ninS (Ne.symm (Nat.ne_of_lt lt_b12_6_b13)) (ninS (Ne.symm (Nat.ne_of_lt lt_b12_7_b13)) (ninS (Ne.symm (Nat.ne_of_lt lt_b12_8_b13)) nin0))))))))) (Or.inr (slot_ne (Or.inr (own_w hw 18 rfl)) (Or.inl (own_w hw 32 rfl)) (by decide) (t := (.array .double)) (t' := .int) (by decide) (by decide)))) (Or.inl n85)) (Or.inl n85))
  have F24_92 : Fld Z h89 b13 "com/example/wayfold/wayfold/engine/DayTiming$Timeline" "travel" "[D" (.ref b24_3) := (Fld.other W89 (Fld.other W74 (Fld.other W69 (Fld.keep (Fld.other W35 (Fld.other W30 (Fld.other W25 F24_3 (Or.inl (Ne.symm (Nat.ne_of_lt lt_b1_b13)))) (Or.inl (Ne.symm (Nat.ne_of_lt lt_b12_0_b13)))) (Or.inl (Ne.symm (Nat.ne_of_lt lt_b12_0_b13)))) K68 (ninS (Ne.symm (Nat.ne_of_lt lt_b12_1_b13)) (ninS (Ne.symm (Nat.ne_of_lt lt_b12_2_b13)) (ninS (Ne.symm (Nat.ne_of_lt lt_b12_3_b13)) (ninS (Ne.symm (Nat.ne_of_lt lt_b12_4_b13)) (ninS (Ne.symm (Nat.ne_of_lt lt_b12_5_b13)) (ninS (Ne.symm (Nat.ne_of_lt lt_b12_6_b13)) (ninS (Ne.symm (Nat.ne_of_lt lt_b12_7_b13)) (ninS (Ne.symm (Nat.ne_of_lt lt_b12_8_b13)) nin0))))))))) (Or.inr (slot_ne (Or.inr (own_w hw 20 rfl)) (Or.inl (own_w hw 32 rfl)) (by decide) (t := (.array .double)) (t' := .int) (by decide) (by decide)))) (Or.inl n85)) (Or.inl n85))
  have F24_93 : Fld Z h89 b13 "com/example/wayfold/wayfold/engine/DayTiming$Timeline" "visit" "[D" (.ref b24_4) := (Fld.other W89 (Fld.other W74 (Fld.other W69 (Fld.keep (Fld.other W35 (Fld.other W30 (Fld.other W25 F24_4 (Or.inl (Ne.symm (Nat.ne_of_lt lt_b1_b13)))) (Or.inl (Ne.symm (Nat.ne_of_lt lt_b12_0_b13)))) (Or.inl (Ne.symm (Nat.ne_of_lt lt_b12_0_b13)))) K68 (ninS (Ne.symm (Nat.ne_of_lt lt_b12_1_b13)) (ninS (Ne.symm (Nat.ne_of_lt lt_b12_2_b13)) (ninS (Ne.symm (Nat.ne_of_lt lt_b12_3_b13)) (ninS (Ne.symm (Nat.ne_of_lt lt_b12_4_b13)) (ninS (Ne.symm (Nat.ne_of_lt lt_b12_5_b13)) (ninS (Ne.symm (Nat.ne_of_lt lt_b12_6_b13)) (ninS (Ne.symm (Nat.ne_of_lt lt_b12_7_b13)) (ninS (Ne.symm (Nat.ne_of_lt lt_b12_8_b13)) nin0))))))))) (Or.inr (slot_ne (Or.inr (own_w hw 22 rfl)) (Or.inl (own_w hw 32 rfl)) (by decide) (t := (.array .double)) (t' := .int) (by decide) (by decide)))) (Or.inl n85)) (Or.inl n85))
  have F24_94 : Fld Z h89 b13 "com/example/wayfold/wayfold/engine/DayTiming$Timeline" "waiting" "[D" (.ref b24_5) := (Fld.other W89 (Fld.other W74 (Fld.other W69 (Fld.keep (Fld.other W35 (Fld.other W30 (Fld.other W25 F24_5 (Or.inl (Ne.symm (Nat.ne_of_lt lt_b1_b13)))) (Or.inl (Ne.symm (Nat.ne_of_lt lt_b12_0_b13)))) (Or.inl (Ne.symm (Nat.ne_of_lt lt_b12_0_b13)))) K68 (ninS (Ne.symm (Nat.ne_of_lt lt_b12_1_b13)) (ninS (Ne.symm (Nat.ne_of_lt lt_b12_2_b13)) (ninS (Ne.symm (Nat.ne_of_lt lt_b12_3_b13)) (ninS (Ne.symm (Nat.ne_of_lt lt_b12_4_b13)) (ninS (Ne.symm (Nat.ne_of_lt lt_b12_5_b13)) (ninS (Ne.symm (Nat.ne_of_lt lt_b12_6_b13)) (ninS (Ne.symm (Nat.ne_of_lt lt_b12_7_b13)) (ninS (Ne.symm (Nat.ne_of_lt lt_b12_8_b13)) nin0))))))))) (Or.inr (slot_ne (Or.inr (own_w hw 24 rfl)) (Or.inl (own_w hw 32 rfl)) (by decide) (t := (.array .double)) (t' := .int) (by decide) (by decide)))) (Or.inl n85)) (Or.inl n85))
  have F24_95 : Fld Z h89 b13 "com/example/wayfold/wayfold/engine/DayTiming$Timeline" "load" "[D" (.ref b24_6) := (Fld.other W89 (Fld.other W74 (Fld.other W69 (Fld.keep (Fld.other W35 (Fld.other W30 (Fld.other W25 F24_6 (Or.inl (Ne.symm (Nat.ne_of_lt lt_b1_b13)))) (Or.inl (Ne.symm (Nat.ne_of_lt lt_b12_0_b13)))) (Or.inl (Ne.symm (Nat.ne_of_lt lt_b12_0_b13)))) K68 (ninS (Ne.symm (Nat.ne_of_lt lt_b12_1_b13)) (ninS (Ne.symm (Nat.ne_of_lt lt_b12_2_b13)) (ninS (Ne.symm (Nat.ne_of_lt lt_b12_3_b13)) (ninS (Ne.symm (Nat.ne_of_lt lt_b12_4_b13)) (ninS (Ne.symm (Nat.ne_of_lt lt_b12_5_b13)) (ninS (Ne.symm (Nat.ne_of_lt lt_b12_6_b13)) (ninS (Ne.symm (Nat.ne_of_lt lt_b12_7_b13)) (ninS (Ne.symm (Nat.ne_of_lt lt_b12_8_b13)) nin0))))))))) (Or.inr (slot_ne (Or.inr (own_w hw 26 rfl)) (Or.inl (own_w hw 32 rfl)) (by decide) (t := (.array .double)) (t' := .int) (by decide) (by decide)))) (Or.inl n85)) (Or.inl n85))
  have F24_96 : Fld Z h89 b13 "com/example/wayfold/wayfold/engine/DayTiming$Timeline" "latest" "[D" (.ref b24_7) := (Fld.other W89 (Fld.other W74 (Fld.other W69 (Fld.keep (Fld.other W35 (Fld.other W30 (Fld.other W25 F24_7 (Or.inl (Ne.symm (Nat.ne_of_lt lt_b1_b13)))) (Or.inl (Ne.symm (Nat.ne_of_lt lt_b12_0_b13)))) (Or.inl (Ne.symm (Nat.ne_of_lt lt_b12_0_b13)))) K68 (ninS (Ne.symm (Nat.ne_of_lt lt_b12_1_b13)) (ninS (Ne.symm (Nat.ne_of_lt lt_b12_2_b13)) (ninS (Ne.symm (Nat.ne_of_lt lt_b12_3_b13)) (ninS (Ne.symm (Nat.ne_of_lt lt_b12_4_b13)) (ninS (Ne.symm (Nat.ne_of_lt lt_b12_5_b13)) (ninS (Ne.symm (Nat.ne_of_lt lt_b12_6_b13)) (ninS (Ne.symm (Nat.ne_of_lt lt_b12_7_b13)) (ninS (Ne.symm (Nat.ne_of_lt lt_b12_8_b13)) nin0))))))))) (Or.inr (slot_ne (Or.inr (own_w hw 28 rfl)) (Or.inl (own_w hw 32 rfl)) (by decide) (t := (.array .double)) (t' := .int) (by decide) (by decide)))) (Or.inl n85)) (Or.inl n85))
  have F24_97 : Fld Z h89 b13 "com/example/wayfold/wayfold/engine/DayTiming$Timeline" "best" "[D" (.ref b24_8) := (Fld.other W89 (Fld.other W74 (Fld.other W69 (Fld.keep (Fld.other W35 (Fld.other W30 (Fld.other W25 F24_8 (Or.inl (Ne.symm (Nat.ne_of_lt lt_b1_b13)))) (Or.inl (Ne.symm (Nat.ne_of_lt lt_b12_0_b13)))) (Or.inl (Ne.symm (Nat.ne_of_lt lt_b12_0_b13)))) K68 (ninS (Ne.symm (Nat.ne_of_lt lt_b12_1_b13)) (ninS (Ne.symm (Nat.ne_of_lt lt_b12_2_b13)) (ninS (Ne.symm (Nat.ne_of_lt lt_b12_3_b13)) (ninS (Ne.symm (Nat.ne_of_lt lt_b12_4_b13)) (ninS (Ne.symm (Nat.ne_of_lt lt_b12_5_b13)) (ninS (Ne.symm (Nat.ne_of_lt lt_b12_6_b13)) (ninS (Ne.symm (Nat.ne_of_lt lt_b12_7_b13)) (ninS (Ne.symm (Nat.ne_of_lt lt_b12_8_b13)) nin0))))))))) (Or.inr (slot_ne (Or.inr (own_w hw 30 rfl)) (Or.inl (own_w hw 32 rfl)) (by decide) (t := (.array .double)) (t' := .int) (by decide) (by decide)))) (Or.inl n85)) (Or.inl n85))
  have n98 : b1 ≠ b24_1 := Nat.ne_of_lt (Nat.lt_trans lx12 (Nat.lt_trans q12_0 (Nat.lt_trans q12_1 (Nat.lt_trans q12_2 (Nat.lt_trans q12_3 (Nat.lt_trans q12_4 (Nat.lt_trans q12_5 (Nat.lt_trans q12_6 (Nat.lt_trans q12_7 (Nat.lt_trans lt_b12_8_b13 (Nat.lt_trans lx24 q24_0)))))))))))
  have n99 : b12_0 ≠ b24_1 := Nat.ne_of_lt (Nat.lt_trans q12_0 (Nat.lt_trans q12_1 (Nat.lt_trans q12_2 (Nat.lt_trans q12_3 (Nat.lt_trans q12_4 (Nat.lt_trans q12_5 (Nat.lt_trans q12_6 (Nat.lt_trans q12_7 (Nat.lt_trans lt_b12_8_b13 (Nat.lt_trans lx24 q24_0))))))))))
  have n100 : b12_8 ≠ b24_1 := Nat.ne_of_lt (Nat.lt_trans lt_b12_8_b13 (Nat.lt_trans lx24 q24_0))
  have n101 : b12_7 ≠ b24_1 := Nat.ne_of_lt (Nat.lt_trans q12_7 (Nat.lt_trans lt_b12_8_b13 (Nat.lt_trans lx24 q24_0)))
  have n102 : b12_6 ≠ b24_1 := Nat.ne_of_lt (Nat.lt_trans q12_6 (Nat.lt_trans q12_7 (Nat.lt_trans lt_b12_8_b13 (Nat.lt_trans lx24 q24_0))))
  have n103 : b12_5 ≠ b24_1 := Nat.ne_of_lt (Nat.lt_trans q12_5 (Nat.lt_trans q12_6 (Nat.lt_trans q12_7 (Nat.lt_trans lt_b12_8_b13 (Nat.lt_trans lx24 q24_0)))))
  have n104 : b12_4 ≠ b24_1 := Nat.ne_of_lt (Nat.lt_trans q12_4 (Nat.lt_trans q12_5 (Nat.lt_trans q12_6 (Nat.lt_trans q12_7 (Nat.lt_trans lt_b12_8_b13 (Nat.lt_trans lx24 q24_0))))))
  have n105 : b12_3 ≠ b24_1 := Nat.ne_of_lt (Nat.lt_trans q12_3 (Nat.lt_trans q12_4 (Nat.lt_trans q12_5 (Nat.lt_trans q12_6 (Nat.lt_trans q12_7 (Nat.lt_trans lt_b12_8_b13 (Nat.lt_trans lx24 q24_0)))))))
  have n106 : b12_2 ≠ b24_1 := Nat.ne_of_lt (Nat.lt_trans q12_2 (Nat.lt_trans q12_3 (Nat.lt_trans q12_4 (Nat.lt_trans q12_5 (Nat.lt_trans q12_6 (Nat.lt_trans q12_7 (Nat.lt_trans lt_b12_8_b13 (Nat.lt_trans lx24 q24_0))))))))
  have n107 : b12_1 ≠ b24_1 := Nat.ne_of_lt (Nat.lt_trans q12_1 (Nat.lt_trans q12_2 (Nat.lt_trans q12_3 (Nat.lt_trans q12_4 (Nat.lt_trans q12_5 (Nat.lt_trans q12_6 (Nat.lt_trans q12_7 (Nat.lt_trans lt_b12_8_b13 (Nat.lt_trans lx24 q24_0)))))))))
  have n108 : b13 ≠ b24_1 := Nat.ne_of_lt (Nat.lt_trans lx24 q24_0)
  have n109 : b24_0 ≠ b24_1 := Nat.ne_of_lt q24_0
  have V24_110 : own_Arr Z h89 b24_1 .double [(.double (0 : UInt64)), (.double (0 : UInt64)), (.double (0 : UInt64))] := (own_Arr.other (own_Arr.other (own_Arr.other (own_Arr.keep (own_Arr.other (own_Arr.other (own_Arr.other V24_1 W25 (Ne.symm n98)) W30 (Ne.symm n99)) W35 (Ne.symm n99)) K68 (ninS (Ne.symm n107) (ninS (Ne.symm n106) (ninS (Ne.symm n105) (ninS (Ne.symm n104) (ninS (Ne.symm n103) (ninS (Ne.symm n102) (ninS (Ne.symm n101) (ninS (Ne.symm n100) nin0))))))))) W69 (Ne.symm n108)) W74 (Ne.symm n109)) W89 (Ne.symm n109))
  have n111 : b1 ≠ b24_2 := Nat.ne_of_lt (Nat.lt_trans lx12 (Nat.lt_trans q12_0 (Nat.lt_trans q12_1 (Nat.lt_trans q12_2 (Nat.lt_trans q12_3 (Nat.lt_trans q12_4 (Nat.lt_trans q12_5 (Nat.lt_trans q12_6 (Nat.lt_trans q12_7 (Nat.lt_trans lt_b12_8_b13 (Nat.lt_trans lx24 (Nat.lt_trans q24_0 q24_1))))))))))))
  have n112 : b12_0 ≠ b24_2 := Nat.ne_of_lt (Nat.lt_trans q12_0 (Nat.lt_trans q12_1 (Nat.lt_trans q12_2 (Nat.lt_trans q12_3 (Nat.lt_trans q12_4 (Nat.lt_trans q12_5 (Nat.lt_trans q12_6 (Nat.lt_trans q12_7 (Nat.lt_trans lt_b12_8_b13 (Nat.lt_trans lx24 (Nat.lt_trans q24_0 q24_1)))))))))))
  have n113 : b12_8 ≠ b24_2 := Nat.ne_of_lt (Nat.lt_trans lt_b12_8_b13 (Nat.lt_trans lx24 (Nat.lt_trans q24_0 q24_1)))
  have n114 : b12_7 ≠ b24_2 := Nat.ne_of_lt (Nat.lt_trans q12_7 (Nat.lt_trans lt_b12_8_b13 (Nat.lt_trans lx24 (Nat.lt_trans q24_0 q24_1))))
  have n115 : b12_6 ≠ b24_2 := Nat.ne_of_lt (Nat.lt_trans q12_6 (Nat.lt_trans q12_7 (Nat.lt_trans lt_b12_8_b13 (Nat.lt_trans lx24 (Nat.lt_trans q24_0 q24_1)))))
  have n116 : b12_5 ≠ b24_2 := Nat.ne_of_lt (Nat.lt_trans q12_5 (Nat.lt_trans q12_6 (Nat.lt_trans q12_7 (Nat.lt_trans lt_b12_8_b13 (Nat.lt_trans lx24 (Nat.lt_trans q24_0 q24_1))))))
  have n117 : b12_4 ≠ b24_2 := Nat.ne_of_lt (Nat.lt_trans q12_4 (Nat.lt_trans q12_5 (Nat.lt_trans q12_6 (Nat.lt_trans q12_7 (Nat.lt_trans lt_b12_8_b13 (Nat.lt_trans lx24 (Nat.lt_trans q24_0 q24_1)))))))
  have n118 : b12_3 ≠ b24_2 := Nat.ne_of_lt (Nat.lt_trans q12_3 (Nat.lt_trans q12_4 (Nat.lt_trans q12_5 (Nat.lt_trans q12_6 (Nat.lt_trans q12_7 (Nat.lt_trans lt_b12_8_b13 (Nat.lt_trans lx24 (Nat.lt_trans q24_0 q24_1))))))))
  have n119 : b12_2 ≠ b24_2 := Nat.ne_of_lt (Nat.lt_trans q12_2 (Nat.lt_trans q12_3 (Nat.lt_trans q12_4 (Nat.lt_trans q12_5 (Nat.lt_trans q12_6 (Nat.lt_trans q12_7 (Nat.lt_trans lt_b12_8_b13 (Nat.lt_trans lx24 (Nat.lt_trans q24_0 q24_1)))))))))
  have n120 : b12_1 ≠ b24_2 := Nat.ne_of_lt (Nat.lt_trans q12_1 (Nat.lt_trans q12_2 (Nat.lt_trans q12_3 (Nat.lt_trans q12_4 (Nat.lt_trans q12_5 (Nat.lt_trans q12_6 (Nat.lt_trans q12_7 (Nat.lt_trans lt_b12_8_b13 (Nat.lt_trans lx24 (Nat.lt_trans q24_0 q24_1))))))))))
  have n121 : b13 ≠ b24_2 := Nat.ne_of_lt (Nat.lt_trans lx24 (Nat.lt_trans q24_0 q24_1))
  have n122 : b24_0 ≠ b24_2 := Nat.ne_of_lt (Nat.lt_trans q24_0 q24_1)
  have V24_123 : own_Arr Z h89 b24_2 .double [(.double (0 : UInt64)), (.double (0 : UInt64)), (.double (0 : UInt64))] := (own_Arr.other (own_Arr.other (own_Arr.other (own_Arr.keep (own_Arr.other (own_Arr.other (own_Arr.other V24_2 W25 (Ne.symm n111)) W30 (Ne.symm n112)) W35 (Ne.symm n112)) K68 (ninS (Ne.symm n120) (ninS (Ne.symm n119) (ninS (Ne.symm n118) (ninS (Ne.symm n117) (ninS (Ne.symm n116) (ninS (Ne.symm n115) (ninS (Ne.symm n114) (ninS (Ne.symm n113) nin0))))))))) W69 (Ne.symm n121)) W74 (Ne.symm n122)) W89 (Ne.symm n122))
  have n124 : b1 ≠ b24_3 := Nat.ne_of_lt (Nat.lt_trans lx12 (Nat.lt_trans q12_0 (Nat.lt_trans q12_1 (Nat.lt_trans q12_2 (Nat.lt_trans q12_3 (Nat.lt_trans q12_4 (Nat.lt_trans q12_5 (Nat.lt_trans q12_6 (Nat.lt_trans q12_7 (Nat.lt_trans lt_b12_8_b13 (Nat.lt_trans lx24 (Nat.lt_trans q24_0 (Nat.lt_trans q24_1 q24_2)))))))))))))
  have n125 : b12_0 ≠ b24_3 := Nat.ne_of_lt (Nat.lt_trans q12_0 (Nat.lt_trans q12_1 (Nat.lt_trans q12_2 (Nat.lt_trans q12_3 (Nat.lt_trans q12_4 (Nat.lt_trans q12_5 (Nat.lt_trans q12_6 (Nat.lt_trans q12_7 (Nat.lt_trans lt_b12_8_b13 (Nat.lt_trans lx24 (Nat.lt_trans q24_0 (Nat.lt_trans q24_1 q24_2))))))))))))
  have n126 : b12_8 ≠ b24_3 := Nat.ne_of_lt (Nat.lt_trans lt_b12_8_b13 (Nat.lt_trans lx24 (Nat.lt_trans q24_0 (Nat.lt_trans q24_1 q24_2))))
  have n127 : b12_7 ≠ b24_3 := Nat.ne_of_lt (Nat.lt_trans q12_7 (Nat.lt_trans lt_b12_8_b13 (Nat.lt_trans lx24 (Nat.lt_trans q24_0 (Nat.lt_trans q24_1 q24_2)))))
  have n128 : b12_6 ≠ b24_3 := Nat.ne_of_lt (Nat.lt_trans q12_6 (Nat.lt_trans q12_7 (Nat.lt_trans lt_b12_8_b13 (Nat.lt_trans lx24 (Nat.lt_trans q24_0 (Nat.lt_trans q24_1 q24_2))))))
  have n129 : b12_5 ≠ b24_3 := Nat.ne_of_lt (Nat.lt_trans q12_5 (Nat.lt_trans q12_6 (Nat.lt_trans q12_7 (Nat.lt_trans lt_b12_8_b13 (Nat.lt_trans lx24 (Nat.lt_trans q24_0 (Nat.lt_trans q24_1 q24_2)))))))
  have n130 : b12_4 ≠ b24_3 := Nat.ne_of_lt (Nat.lt_trans q12_4 (Nat.lt_trans q12_5 (Nat.lt_trans q12_6 (Nat.lt_trans q12_7 (Nat.lt_trans lt_b12_8_b13 (Nat.lt_trans lx24 (Nat.lt_trans q24_0 (Nat.lt_trans q24_1 q24_2))))))))
  have n131 : b12_3 ≠ b24_3 := Nat.ne_of_lt (Nat.lt_trans q12_3 (Nat.lt_trans q12_4 (Nat.lt_trans q12_5 (Nat.lt_trans q12_6 (Nat.lt_trans q12_7 (Nat.lt_trans lt_b12_8_b13 (Nat.lt_trans lx24 (Nat.lt_trans q24_0 (Nat.lt_trans q24_1 q24_2)))))))))
  have n132 : b12_2 ≠ b24_3 := Nat.ne_of_lt (Nat.lt_trans q12_2 (Nat.lt_trans q12_3 (Nat.lt_trans q12_4 (Nat.lt_trans q12_5 (Nat.lt_trans q12_6 (Nat.lt_trans q12_7 (Nat.lt_trans lt_b12_8_b13 (Nat.lt_trans lx24 (Nat.lt_trans q24_0 (Nat.lt_trans q24_1 q24_2))))))))))
  have n133 : b12_1 ≠ b24_3 := Nat.ne_of_lt (Nat.lt_trans q12_1 (Nat.lt_trans q12_2 (Nat.lt_trans q12_3 (Nat.lt_trans q12_4 (Nat.lt_trans q12_5 (Nat.lt_trans q12_6 (Nat.lt_trans q12_7 (Nat.lt_trans lt_b12_8_b13 (Nat.lt_trans lx24 (Nat.lt_trans q24_0 (Nat.lt_trans q24_1 q24_2)))))))))))
  have n134 : b13 ≠ b24_3 := Nat.ne_of_lt (Nat.lt_trans lx24 (Nat.lt_trans q24_0 (Nat.lt_trans q24_1 q24_2)))
  have n135 : b24_0 ≠ b24_3 := Nat.ne_of_lt (Nat.lt_trans q24_0 (Nat.lt_trans q24_1 q24_2))
  have V24_136 : own_Arr Z h89 b24_3 .double [(.double (0 : UInt64)), (.double (0 : UInt64)), (.double (0 : UInt64))] := (own_Arr.other (own_Arr.other (own_Arr.other (own_Arr.keep (own_Arr.other (own_Arr.other (own_Arr.other V24_3 W25 (Ne.symm n124)) W30 (Ne.symm n125)) W35 (Ne.symm n125)) K68 (ninS (Ne.symm n133) (ninS (Ne.symm n132) (ninS (Ne.symm n131) (ninS (Ne.symm n130) (ninS (Ne.symm n129) (ninS (Ne.symm n128) (ninS (Ne.symm n127) (ninS (Ne.symm n126) nin0))))))))) W69 (Ne.symm n134)) W74 (Ne.symm n135)) W89 (Ne.symm n135))
  have n137 : b1 ≠ b24_4 := Nat.ne_of_lt (Nat.lt_trans lx12 (Nat.lt_trans q12_0 (Nat.lt_trans q12_1 (Nat.lt_trans q12_2 (Nat.lt_trans q12_3 (Nat.lt_trans q12_4 (Nat.lt_trans q12_5 (Nat.lt_trans q12_6 (Nat.lt_trans q12_7 (Nat.lt_trans lt_b12_8_b13 (Nat.lt_trans lx24 (Nat.lt_trans q24_0 (Nat.lt_trans q24_1 (Nat.lt_trans q24_2 q24_3))))))))))))))
  have n138 : b12_0 ≠ b24_4 := Nat.ne_of_lt (Nat.lt_trans q12_0 (Nat.lt_trans q12_1 (Nat.lt_trans q12_2 (Nat.lt_trans q12_3 (Nat.lt_trans q12_4 (Nat.lt_trans q12_5 (Nat.lt_trans q12_6 (Nat.lt_trans q12_7 (Nat.lt_trans lt_b12_8_b13 (Nat.lt_trans lx24 (Nat.lt_trans q24_0 (Nat.lt_trans q24_1 (Nat.lt_trans q24_2 q24_3)))))))))))))
  have n139 : b12_8 ≠ b24_4 := Nat.ne_of_lt (Nat.lt_trans lt_b12_8_b13 (Nat.lt_trans lx24 (Nat.lt_trans q24_0 (Nat.lt_trans q24_1 (Nat.lt_trans q24_2 q24_3)))))
  have n140 : b12_7 ≠ b24_4 := Nat.ne_of_lt (Nat.lt_trans q12_7 (Nat.lt_trans lt_b12_8_b13 (Nat.lt_trans lx24 (Nat.lt_trans q24_0 (Nat.lt_trans q24_1 (Nat.lt_trans q24_2 q24_3))))))
  have n141 : b12_6 ≠ b24_4 := Nat.ne_of_lt (Nat.lt_trans q12_6 (Nat.lt_trans q12_7 (Nat.lt_trans lt_b12_8_b13 (Nat.lt_trans lx24 (Nat.lt_trans q24_0 (Nat.lt_trans q24_1 (Nat.lt_trans q24_2 q24_3)))))))
  have n142 : b12_5 ≠ b24_4 := Nat.ne_of_lt (Nat.lt_trans q12_5 (Nat.lt_trans q12_6 (Nat.lt_trans q12_7 (Nat.lt_trans lt_b12_8_b13 (Nat.lt_trans lx24 (Nat.lt_trans q24_0 (Nat.lt_trans q24_1 (Nat.lt_trans q24_2 q24_3))))))))
  have n143 : b12_4 ≠ b24_4 := Nat.ne_of_lt (Nat.lt_trans q12_4 (Nat.lt_trans q12_5 (Nat.lt_trans q12_6 (Nat.lt_trans q12_7 (Nat.lt_trans lt_b12_8_b13 (Nat.lt_trans lx24 (Nat.lt_trans q24_0 (Nat.lt_trans q24_1 (Nat.lt_trans q24_2 q24_3)))))))))
  have n144 : b12_3 ≠ b24_4 := Nat.ne_of_lt (Nat.lt_trans q12_3 (Nat.lt_trans q12_4 (Nat.lt_trans q12_5 (Nat.lt_trans q12_6 (Nat.lt_trans q12_7 (Nat.lt_trans lt_b12_8_b13 (Nat.lt_trans lx24 (Nat.lt_trans q24_0 (Nat.lt_trans q24_1 (Nat.lt_trans q24_2 q24_3))))))))))
  have n145 : b12_2 ≠ b24_4 := Nat.ne_of_lt (Nat.lt_trans q12_2 (Nat.lt_trans q12_3 (Nat.lt_trans q12_4 (Nat.lt_trans q12_5 (Nat.lt_trans q12_6 (Nat.lt_trans q12_7 (Nat.lt_trans lt_b12_8_b13 (Nat.lt_trans lx24 (Nat.lt_trans q24_0 (Nat.lt_trans q24_1 (Nat.lt_trans q24_2 q24_3)))))))))))
  have n146 : b12_1 ≠ b24_4 := Nat.ne_of_lt (Nat.lt_trans q12_1 (Nat.lt_trans q12_2 (Nat.lt_trans q12_3 (Nat.lt_trans q12_4 (Nat.lt_trans q12_5 (Nat.lt_trans q12_6 (Nat.lt_trans q12_7 (Nat.lt_trans lt_b12_8_b13 (Nat.lt_trans lx24 (Nat.lt_trans q24_0 (Nat.lt_trans q24_1 (Nat.lt_trans q24_2 q24_3))))))))))))
  have n147 : b13 ≠ b24_4 := Nat.ne_of_lt (Nat.lt_trans lx24 (Nat.lt_trans q24_0 (Nat.lt_trans q24_1 (Nat.lt_trans q24_2 q24_3))))
  have n148 : b24_0 ≠ b24_4 := Nat.ne_of_lt (Nat.lt_trans q24_0 (Nat.lt_trans q24_1 (Nat.lt_trans q24_2 q24_3)))
  have V24_149 : own_Arr Z h89 b24_4 .double [(.double (0 : UInt64)), (.double (0 : UInt64)), (.double (0 : UInt64))] := (own_Arr.other (own_Arr.other (own_Arr.other (own_Arr.keep (own_Arr.other (own_Arr.other (own_Arr.other V24_4 W25 (Ne.symm n137)) W30 (Ne.symm n138)) W35 (Ne.symm n138)) K68 (ninS (Ne.symm n146) (ninS (Ne.symm n145) (ninS (Ne.symm n144) (ninS (Ne.symm n143) (ninS (Ne.symm n142) (ninS (Ne.symm n141) (ninS (Ne.symm n140) (ninS (Ne.symm n139) nin0))))))))) W69 (Ne.symm n147)) W74 (Ne.symm n148)) W89 (Ne.symm n148))
  have n150 : b1 ≠ b24_5 := Nat.ne_of_lt (Nat.lt_trans lx12 (Nat.lt_trans q12_0 (Nat.lt_trans q12_1 (Nat.lt_trans q12_2 (Nat.lt_trans q12_3 (Nat.lt_trans q12_4 (Nat.lt_trans q12_5 (Nat.lt_trans q12_6 (Nat.lt_trans q12_7 (Nat.lt_trans lt_b12_8_b13 (Nat.lt_trans lx24 (Nat.lt_trans q24_0 (Nat.lt_trans q24_1 (Nat.lt_trans q24_2 (Nat.lt_trans q24_3 q24_4)))))))))))))))
  have n151 : b12_0 ≠ b24_5 := Nat.ne_of_lt (Nat.lt_trans q12_0 (Nat.lt_trans q12_1 (Nat.lt_trans q12_2 (Nat.lt_trans q12_3 (Nat.lt_trans q12_4 (Nat.lt_trans q12_5 (Nat.lt_trans q12_6 (Nat.lt_trans q12_7 (Nat.lt_trans lt_b12_8_b13 (Nat.lt_trans lx24 (Nat.lt_trans q24_0 (Nat.lt_trans q24_1 (Nat.lt_trans q24_2 (Nat.lt_trans q24_3 q24_4))))))))))))))
  have n152 : b12_8 ≠ b24_5 := Nat.ne_of_lt (Nat.lt_trans lt_b12_8_b13 (Nat.lt_trans lx24 (Nat.lt_trans q24_0 (Nat.lt_trans q24_1 (Nat.lt_trans q24_2 (Nat.lt_trans q24_3 q24_4))))))
  have n153 : b12_7 ≠ b24_5 := Nat.ne_of_lt (Nat.lt_trans q12_7 (Nat.lt_trans lt_b12_8_b13 (Nat.lt_trans lx24 (Nat.lt_trans q24_0 (Nat.lt_trans q24_1 (Nat.lt_trans q24_2 (Nat.lt_trans q24_3 q24_4)))))))
  have n154 : b12_6 ≠ b24_5 := Nat.ne_of_lt (Nat.lt_trans q12_6 (Nat.lt_trans q12_7 (Nat.lt_trans lt_b12_8_b13 (Nat.lt_trans lx24 (Nat.lt_trans q24_0 (Nat.lt_trans q24_1 (Nat.lt_trans q24_2 (Nat.lt_trans q24_3 q24_4))))))))
  have n155 : b12_5 ≠ b24_5 := Nat.ne_of_lt (Nat.lt_trans q12_5 (Nat.lt_trans q12_6 (Nat.lt_trans q12_7 (Nat.lt_trans lt_b12_8_b13 (Nat.lt_trans lx24 (Nat.lt_trans q24_0 (Nat.lt_trans q24_1 (Nat.lt_trans q24_2 (Nat.lt_trans q24_3 q24_4)))))))))
  have n156 : b12_4 ≠ b24_5 := Nat.ne_of_lt (Nat.lt_trans q12_4 (Nat.lt_trans q12_5 (Nat.lt_trans q12_6 (Nat.lt_trans q12_7 (Nat.lt_trans lt_b12_8_b13 (Nat.lt_trans lx24 (Nat.lt_trans q24_0 (Nat.lt_trans q24_1 (Nat.lt_trans q24_2 (Nat.lt_trans q24_3 q24_4))))))))))
  have n157 : b12_3 ≠ b24_5 := Nat.ne_of_lt (Nat.lt_trans q12_3 (Nat.lt_trans q12_4 (Nat.lt_trans q12_5 (Nat.lt_trans q12_6 (Nat.lt_trans q12_7 (Nat.lt_trans lt_b12_8_b13 (Nat.lt_trans lx24 (Nat.lt_trans q24_0 (Nat.lt_trans q24_1 (Nat.lt_trans q24_2 (Nat.lt_trans q24_3 q24_4)))))))))))
  have n158 : b12_2 ≠ b24_5 := Nat.ne_of_lt (Nat.lt_trans q12_2 (Nat.lt_trans q12_3 (Nat.lt_trans q12_4 (Nat.lt_trans q12_5 (Nat.lt_trans q12_6 (Nat.lt_trans q12_7 (Nat.lt_trans lt_b12_8_b13 (Nat.lt_trans lx24 (Nat.lt_trans q24_0 (Nat.lt_trans q24_1 (Nat.lt_trans q24_2 (Nat.lt_trans q24_3 q24_4))))))))))))
  have n159 : b12_1 ≠ b24_5 := Nat.ne_of_lt (Nat.lt_trans q12_1 (Nat.lt_trans q12_2 (Nat.lt_trans q12_3 (Nat.lt_trans q12_4 (Nat.lt_trans q12_5 (Nat.lt_trans q12_6 (Nat.lt_trans q12_7 (Nat.lt_trans lt_b12_8_b13 (Nat.lt_trans lx24 (Nat.lt_trans q24_0 (Nat.lt_trans q24_1 (Nat.lt_trans q24_2 (Nat.lt_trans q24_3 q24_4)))))))))))))
  have n160 : b13 ≠ b24_5 := Nat.ne_of_lt (Nat.lt_trans lx24 (Nat.lt_trans q24_0 (Nat.lt_trans q24_1 (Nat.lt_trans q24_2 (Nat.lt_trans q24_3 q24_4)))))
  have n161 : b24_0 ≠ b24_5 := Nat.ne_of_lt (Nat.lt_trans q24_0 (Nat.lt_trans q24_1 (Nat.lt_trans q24_2 (Nat.lt_trans q24_3 q24_4))))
  have V24_162 : own_Arr Z h89 b24_5 .double [(.double (0 : UInt64)), (.double (0 : UInt64)), (.double (0 : UInt64))] := (own_Arr.other (own_Arr.other (own_Arr.other (own_Arr.keep (own_Arr.other (own_Arr.other (own_Arr.other V24_5 W25 (Ne.symm n150)) W30 (Ne.symm n151)) W35 (Ne.symm n151)) K68 (ninS (Ne.symm n159) (ninS (Ne.symm n158) (ninS (Ne.symm n157) (ninS (Ne.symm n156) (ninS (Ne.symm n155) (ninS (Ne.symm n154) (ninS (Ne.symm n153) (ninS (Ne.symm n152) nin0))))))))) W69 (Ne.symm n160)) W74 (Ne.symm n161)) W89 (Ne.symm n161))
  have n163 : b1 ≠ b24_6 := Nat.ne_of_lt (Nat.lt_trans lx12 (Nat.lt_trans q12_0 (Nat.lt_trans q12_1 (Nat.lt_trans q12_2 (Nat.lt_trans q12_3 (Nat.lt_trans q12_4 (Nat.lt_trans q12_5 (Nat.lt_trans q12_6 (Nat.lt_trans q12_7 (Nat.lt_trans lt_b12_8_b13 (Nat.lt_trans lx24 (Nat.lt_trans q24_0 (Nat.lt_trans q24_1 (Nat.lt_trans q24_2 (Nat.lt_trans q24_3 (Nat.lt_trans q24_4 q24_5))))))))))))))))
  have n164 : b12_0 ≠ b24_6 := Nat.ne_of_lt (Nat.lt_trans q12_0 (Nat.lt_trans q12_1 (Nat.lt_trans q12_2 (Nat.lt_trans q12_3 (Nat.lt_trans q12_4 (Nat.lt_trans q12_5 (Nat.lt_trans q12_6 (Nat.lt_trans q12_7 (Nat.lt_trans lt_b12_8_b13 (Nat.lt_trans lx24 (Nat.lt_trans q24_0 (Nat.lt_trans q24_1 (Nat.lt_trans q24_2 (Nat.lt_trans q24_3 (Nat.lt_trans q24_4 q24_5)))))))))))))))
  have n165 : b12_8 ≠ b24_6 := Nat.ne_of_lt (Nat.lt_trans lt_b12_8_b13 (Nat.lt_trans lx24 (Nat.lt_trans q24_0 (Nat.lt_trans q24_1 (Nat.lt_trans q24_2 (Nat.lt_trans q24_3 (Nat.lt_trans q24_4 q24_5)))))))
  have n166 : b12_7 ≠ b24_6 := Nat.ne_of_lt (Nat.lt_trans q12_7 (Nat.lt_trans lt_b12_8_b13 (Nat.lt_trans lx24 (Nat.lt_trans q24_0 (Nat.lt_trans q24_1 (Nat.lt_trans q24_2 (Nat.lt_trans q24_3 (Nat.lt_trans q24_4 q24_5))))))))
  have n167 : b12_6 ≠ b24_6 := Nat.ne_of_lt (Nat.lt_trans q12_6 (Nat.lt_trans q12_7 (Nat.lt_trans lt_b12_8_b13 (Nat.lt_trans lx24 (Nat.lt_trans q24_0 (Nat.lt_trans q24_1 (Nat.lt_trans q24_2 (Nat.lt_trans q24_3 (Nat.lt_trans q24_4 q24_5)))))))))
  have n168 : b12_5 ≠ b24_6 := Nat.ne_of_lt (Nat.lt_trans q12_5 (Nat.lt_trans q12_6 (Nat.lt_trans q12_7 (Nat.lt_trans lt_b12_8_b13 (Nat.lt_trans lx24 (Nat.lt_trans q24_0 (Nat.lt_trans q24_1 (Nat.lt_trans q24_2 (Nat.lt_trans q24_3 (Nat.lt_trans q24_4 q24_5))))))))))
  have n169 : b12_4 ≠ b24_6 := Nat.ne_of_lt (Nat.lt_trans q12_4 (Nat.lt_trans q12_5 (Nat.lt_trans q12_6 (Nat.lt_trans q12_7 (Nat.lt_trans lt_b12_8_b13 (Nat.lt_trans lx24 (Nat.lt_trans q24_0 (Nat.lt_trans q24_1 (Nat.lt_trans q24_2 (Nat.lt_trans q24_3 (Nat.lt_trans q24_4 q24_5)))))))))))
  have n170 : b12_3 ≠ b24_6 := Nat.ne_of_lt (Nat.lt_trans q12_3 (Nat.lt_trans q12_4 (Nat.lt_trans q12_5 (Nat.lt_trans q12_6 (Nat.lt_trans q12_7 (Nat.lt_trans lt_b12_8_b13 (Nat.lt_trans lx24 (Nat.lt_trans q24_0 (Nat.lt_trans q24_1 (Nat.lt_trans q24_2 (Nat.lt_trans q24_3 (Nat.lt_trans q24_4 q24_5))))))))))))
  have n171 : b12_2 ≠ b24_6 := Nat.ne_of_lt (Nat.lt_trans q12_2 (Nat.lt_trans q12_3 (Nat.lt_trans q12_4 (Nat.lt_trans q12_5 (Nat.lt_trans q12_6 (Nat.lt_trans q12_7 (Nat.lt_trans lt_b12_8_b13 (Nat.lt_trans lx24 (Nat.lt_trans q24_0 (Nat.lt_trans q24_1 (Nat.lt_trans q24_2 (Nat.lt_trans q24_3 (Nat.lt_trans q24_4 q24_5)))))))))))))
  have n172 : b12_1 ≠ b24_6 := Nat.ne_of_lt (Nat.lt_trans q12_1 (Nat.lt_trans q12_2 (Nat.lt_trans q12_3 (Nat.lt_trans q12_4 (Nat.lt_trans q12_5 (Nat.lt_trans q12_6 (Nat.lt_trans q12_7 (Nat.lt_trans lt_b12_8_b13 (Nat.lt_trans lx24 (Nat.lt_trans q24_0 (Nat.lt_trans q24_1 (Nat.lt_trans q24_2 (Nat.lt_trans q24_3 (Nat.lt_trans q24_4 q24_5))))))))))))))
  have n173 : b13 ≠ b24_6 := Nat.ne_of_lt (Nat.lt_trans lx24 (Nat.lt_trans q24_0 (Nat.lt_trans q24_1 (Nat.lt_trans q24_2 (Nat.lt_trans q24_3 (Nat.lt_trans q24_4 q24_5))))))
  have n174 : b24_0 ≠ b24_6 := Nat.ne_of_lt (Nat.lt_trans q24_0 (Nat.lt_trans q24_1 (Nat.lt_trans q24_2 (Nat.lt_trans q24_3 (Nat.lt_trans q24_4 q24_5)))))
  have V24_175 : own_Arr Z h89 b24_6 .double [(.double (0 : UInt64)), (.double (0 : UInt64)), (.double (0 : UInt64))] := (own_Arr.other (own_Arr.other (own_Arr.other (own_Arr.keep (own_Arr.other (own_Arr.other (own_Arr.other V24_6 W25 (Ne.symm n163)) W30 (Ne.symm n164)) W35 (Ne.symm n164)) K68 (ninS (Ne.symm n172) (ninS (Ne.symm n171) (ninS (Ne.symm n170) (ninS (Ne.symm n169) (ninS (Ne.symm n168) (ninS (Ne.symm n167) (ninS (Ne.symm n166) (ninS (Ne.symm n165) nin0))))))))) W69 (Ne.symm n173)) W74 (Ne.symm n174)) W89 (Ne.symm n174))
  have n176 : b1 ≠ b24_7 := Nat.ne_of_lt (Nat.lt_trans lx12 (Nat.lt_trans q12_0 (Nat.lt_trans q12_1 (Nat.lt_trans q12_2 (Nat.lt_trans q12_3 (Nat.lt_trans q12_4 (Nat.lt_trans q12_5 (Nat.lt_trans q12_6 (Nat.lt_trans q12_7 (Nat.lt_trans lt_b12_8_b13 (Nat.lt_trans lx24 (Nat.lt_trans q24_0 (Nat.lt_trans q24_1 (Nat.lt_trans q24_2 (Nat.lt_trans q24_3 (Nat.lt_trans q24_4 (Nat.lt_trans q24_5 q24_6)))))))))))))))))
  have n177 : b12_0 ≠ b24_7 := Nat.ne_of_lt (Nat.lt_trans q12_0 (Nat.lt_trans q12_1 (Nat.lt_trans q12_2 (Nat.lt_trans q12_3 (Nat.lt_trans q12_4 (Nat.lt_trans q12_5 (Nat.lt_trans q12_6 (Nat.lt_trans q12_7 (Nat.lt_trans lt_b12_8_b13 (Nat.lt_trans lx24 (Nat.lt_trans q24_0 (Nat.lt_trans q24_1 (Nat.lt_trans q24_2 (Nat.lt_trans q24_3 (Nat.lt_trans q24_4 (Nat.lt_trans q24_5 q24_6))))))))))))))))
  have n178 : b12_8 ≠ b24_7 := Nat.ne_of_lt (Nat.lt_trans lt_b12_8_b13 (Nat.lt_trans lx24 (Nat.lt_trans q24_0 (Nat.lt_trans q24_1 (Nat.lt_trans q24_2 (Nat.lt_trans q24_3 (Nat.lt_trans q24_4 (Nat.lt_trans q24_5 q24_6))))))))
  have n179 : b12_7 ≠ b24_7 := Nat.ne_of_lt (Nat.lt_trans q12_7 (Nat.lt_trans lt_b12_8_b13 (Nat.lt_trans lx24 (Nat.lt_trans q24_0 (Nat.lt_trans q24_1 (Nat.lt_trans q24_2 (Nat.lt_trans q24_3 (Nat.lt_trans q24_4 (Nat.lt_trans q24_5 q24_6)))))))))
  have n180 : b12_6 ≠ b24_7 := Nat.ne_of_lt (Nat.lt_trans q12_6 (Nat.lt_trans q12_7 (Nat.lt_trans lt_b12_8_b13 (Nat.lt_trans lx24 (Nat.lt_trans q24_0 (Nat.lt_trans q24_1 (Nat.lt_trans q24_2 (Nat.lt_trans q24_3 (Nat.lt_trans q24_4 (Nat.lt_trans q24_5 q24_6))))))))))
  have n181 : b12_5 ≠ b24_7 := Nat.ne_of_lt (Nat.lt_trans q12_5 (Nat.lt_trans q12_6 (Nat.lt_trans q12_7 (Nat.lt_trans lt_b12_8_b13 (Nat.lt_trans lx24 (Nat.lt_trans q24_0 (Nat.lt_trans q24_1 (Nat.lt_trans q24_2 (Nat.lt_trans q24_3 (Nat.lt_trans q24_4 (Nat.lt_trans q24_5 q24_6)))))))))))
  have n182 : b12_4 ≠ b24_7 := Nat.ne_of_lt (Nat.lt_trans q12_4 (Nat.lt_trans q12_5 (Nat.lt_trans q12_6 (Nat.lt_trans q12_7 (Nat.lt_trans lt_b12_8_b13 (Nat.lt_trans lx24 (Nat.lt_trans q24_0 (Nat.lt_trans q24_1 (Nat.lt_trans q24_2 (Nat.lt_trans q24_3 (Nat.lt_trans q24_4 (Nat.lt_trans q24_5 q24_6))))))))))))
  have n183 : b12_3 ≠ b24_7 := Nat.ne_of_lt (Nat.lt_trans q12_3 (Nat.lt_trans q12_4 (Nat.lt_trans q12_5 (Nat.lt_trans q12_6 (Nat.lt_trans q12_7 (Nat.lt_trans lt_b12_8_b13 (Nat.lt_trans lx24 (Nat.lt_trans q24_0 (Nat.lt_trans q24_1 (Nat.lt_trans q24_2 (Nat.lt_trans q24_3 (Nat.lt_trans q24_4 (Nat.lt_trans q24_5 q24_6)))))))))))))
  have n184 : b12_2 ≠ b24_7 := Nat.ne_of_lt (Nat.lt_trans q12_2 (Nat.lt_trans q12_3 (Nat.lt_trans q12_4 (Nat.lt_trans q12_5 (Nat.lt_trans q12_6 (Nat.lt_trans q12_7 (Nat.lt_trans lt_b12_8_b13 (Nat.lt_trans lx24 (Nat.lt_trans q24_0 (Nat.lt_trans q24_1 (Nat.lt_trans q24_2 (Nat.lt_trans q24_3 (Nat.lt_trans q24_4 (Nat.lt_trans q24_5 q24_6))))))))))))))
  have n185 : b12_1 ≠ b24_7 := Nat.ne_of_lt (Nat.lt_trans q12_1 (Nat.lt_trans q12_2 (Nat.lt_trans q12_3 (Nat.lt_trans q12_4 (Nat.lt_trans q12_5 (Nat.lt_trans q12_6 (Nat.lt_trans q12_7 (Nat.lt_trans lt_b12_8_b13 (Nat.lt_trans lx24 (Nat.lt_trans q24_0 (Nat.lt_trans q24_1 (Nat.lt_trans q24_2 (Nat.lt_trans q24_3 (Nat.lt_trans q24_4 (Nat.lt_trans q24_5 q24_6)))))))))))))))
  have n186 : b13 ≠ b24_7 := Nat.ne_of_lt (Nat.lt_trans lx24 (Nat.lt_trans q24_0 (Nat.lt_trans q24_1 (Nat.lt_trans q24_2 (Nat.lt_trans q24_3 (Nat.lt_trans q24_4 (Nat.lt_trans q24_5 q24_6)))))))
  have n187 : b24_0 ≠ b24_7 := Nat.ne_of_lt (Nat.lt_trans q24_0 (Nat.lt_trans q24_1 (Nat.lt_trans q24_2 (Nat.lt_trans q24_3 (Nat.lt_trans q24_4 (Nat.lt_trans q24_5 q24_6))))))
  have V24_188 : own_Arr Z h89 b24_7 .double [(.double (0 : UInt64)), (.double (0 : UInt64)), (.double (0 : UInt64))] := (own_Arr.other (own_Arr.other (own_Arr.other (own_Arr.keep (own_Arr.other (own_Arr.other (own_Arr.other V24_7 W25 (Ne.symm n176)) W30 (Ne.symm n177)) W35 (Ne.symm n177)) K68 (ninS (Ne.symm n185) (ninS (Ne.symm n184) (ninS (Ne.symm n183) (ninS (Ne.symm n182) (ninS (Ne.symm n181) (ninS (Ne.symm n180) (ninS (Ne.symm n179) (ninS (Ne.symm n178) nin0))))))))) W69 (Ne.symm n186)) W74 (Ne.symm n187)) W89 (Ne.symm n187))
  have n189 : b1 ≠ b24_8 := Nat.ne_of_lt (Nat.lt_trans lx12 (Nat.lt_trans q12_0 (Nat.lt_trans q12_1 (Nat.lt_trans q12_2 (Nat.lt_trans q12_3 (Nat.lt_trans q12_4 (Nat.lt_trans q12_5 (Nat.lt_trans q12_6 (Nat.lt_trans q12_7 (Nat.lt_trans lt_b12_8_b13 (Nat.lt_trans lx24 (Nat.lt_trans q24_0 (Nat.lt_trans q24_1 (Nat.lt_trans q24_2 (Nat.lt_trans q24_3 (Nat.lt_trans q24_4 (Nat.lt_trans q24_5 (Nat.lt_trans q24_6 q24_7))))))))))))))))))
  have n190 : b12_0 ≠ b24_8 := Nat.ne_of_lt (Nat.lt_trans q12_0 (Nat.lt_trans q12_1 (Nat.lt_trans q12_2 (Nat.lt_trans q12_3 (Nat.lt_trans q12_4 (Nat.lt_trans q12_5 (Nat.lt_trans q12_6 (Nat.lt_trans q12_7 (Nat.lt_trans lt_b12_8_b13 (Nat.lt_trans lx24 (Nat.lt_trans q24_0 (Nat.lt_trans q24_1 (Nat.lt_trans q24_2 (Nat.lt_trans q24_3 (Nat.lt_trans q24_4 (Nat.lt_trans q24_5 (Nat.lt_trans q24_6 q24_7)))))))))))))))))
  have n191 : b12_8 ≠ b24_8 := Nat.ne_of_lt (Nat.lt_trans lt_b12_8_b13 (Nat.lt_trans lx24 (Nat.lt_trans q24_0 (Nat.lt_trans q24_1 (Nat.lt_trans q24_2 (Nat.lt_trans q24_3 (Nat.lt_trans q24_4 (Nat.lt_trans q24_5 (Nat.lt_trans q24_6 q24_7)))))))))
  have n192 : b12_7 ≠ b24_8 := Nat.ne_of_lt (Nat.lt_trans q12_7 (Nat.lt_trans lt_b12_8_b13 (Nat.lt_trans lx24 (Nat.lt_trans q24_0 (Nat.lt_trans q24_1 (Nat.lt_trans q24_2 (Nat.lt_trans q24_3 (Nat.lt_trans q24_4 (Nat.lt_trans q24_5 (Nat.lt_trans q24_6 q24_7))))))))))
  have n193 : b12_6 ≠ b24_8 := Nat.ne_of_lt (Nat.lt_trans q12_6 (Nat.lt_trans q12_7 (Nat.lt_trans lt_b12_8_b13 (Nat.lt_trans lx24 (Nat.lt_trans q24_0 (Nat.lt_trans q24_1 (Nat.lt_trans q24_2 (Nat.lt_trans q24_3 (Nat.lt_trans q24_4 (Nat.lt_trans q24_5 (Nat.lt_trans q24_6 q24_7)))))))))))
  have n194 : b12_5 ≠ b24_8 := Nat.ne_of_lt (Nat.lt_trans q12_5 (Nat.lt_trans q12_6 (Nat.lt_trans q12_7 (Nat.lt_trans lt_b12_8_b13 (Nat.lt_trans lx24 (Nat.lt_trans q24_0 (Nat.lt_trans q24_1 (Nat.lt_trans q24_2 (Nat.lt_trans q24_3 (Nat.lt_trans q24_4 (Nat.lt_trans q24_5 (Nat.lt_trans q24_6 q24_7))))))))))))
  have n195 : b12_4 ≠ b24_8 := Nat.ne_of_lt (Nat.lt_trans q12_4 (Nat.lt_trans q12_5 (Nat.lt_trans q12_6 (Nat.lt_trans q12_7 (Nat.lt_trans lt_b12_8_b13 (Nat.lt_trans lx24 (Nat.lt_trans q24_0 (Nat.lt_trans q24_1 (Nat.lt_trans q24_2 (Nat.lt_trans q24_3 (Nat.lt_trans q24_4 (Nat.lt_trans q24_5 (Nat.lt_trans q24_6 q24_7)))))))))))))
  have n196 : b12_3 ≠ b24_8 := Nat.ne_of_lt (Nat.lt_trans q12_3 (Nat.lt_trans q12_4 (Nat.lt_trans q12_5 (Nat.lt_trans q12_6 (Nat.lt_trans q12_7 (Nat.lt_trans lt_b12_8_b13 (Nat.lt_trans lx24 (Nat.lt_trans q24_0 (Nat.lt_trans q24_1 (Nat.lt_trans q24_2 (Nat.lt_trans q24_3 (Nat.lt_trans q24_4 (Nat.lt_trans q24_5 (Nat.lt_trans q24_6 q24_7))))))))))))))
  have n197 : b12_2 ≠ b24_8 := Nat.ne_of_lt (Nat.lt_trans q12_2 (Nat.lt_trans q12_3 (Nat.lt_trans q12_4 (Nat.lt_trans q12_5 (Nat.lt_trans q12_6 (Nat.lt_trans q12_7 (Nat.lt_trans lt_b12_8_b13 (Nat.lt_trans lx24 (Nat.lt_trans q24_0 (Nat.lt_trans q24_1 (Nat.lt_trans q24_2 (Nat.lt_trans q24_3 (Nat.lt_trans q24_4 (Nat.lt_trans q24_5 (Nat.lt_trans q24_6 q24_7)))))))))))))))
  have n198 : b12_1 ≠ b24_8 := Nat.ne_of_lt (Nat.lt_trans q12_1 (Nat.lt_trans q12_2 (Nat.lt_trans q12_3 (Nat.lt_trans q12_4 (Nat.lt_trans q12_5 (Nat.lt_trans q12_6 (Nat.lt_trans q12_7 (Nat.lt_trans lt_b12_8_b13 (Nat.lt_trans lx24 (Nat.lt_trans q24_0 (Nat.lt_trans q24_1 (Nat.lt_trans q24_2 (Nat.lt_trans q24_3 (Nat.lt_trans q24_4 (Nat.lt_trans q24_5 (Nat.lt_trans q24_6 q24_7))))))))))))))))
  have n199 : b13 ≠ b24_8 := Nat.ne_of_lt (Nat.lt_trans lx24 (Nat.lt_trans q24_0 (Nat.lt_trans q24_1 (Nat.lt_trans q24_2 (Nat.lt_trans q24_3 (Nat.lt_trans q24_4 (Nat.lt_trans q24_5 (Nat.lt_trans q24_6 q24_7))))))))
  have n200 : b24_0 ≠ b24_8 := Nat.ne_of_lt (Nat.lt_trans q24_0 (Nat.lt_trans q24_1 (Nat.lt_trans q24_2 (Nat.lt_trans q24_3 (Nat.lt_trans q24_4 (Nat.lt_trans q24_5 (Nat.lt_trans q24_6 q24_7)))))))
  have V24_201 : own_Arr Z h89 b24_8 .double [(.double (0 : UInt64)), (.double (0 : UInt64)), (.double (0 : UInt64))] := (own_Arr.other (own_Arr.other (own_Arr.other (own_Arr.keep (own_Arr.other (own_Arr.other (own_Arr.other V24_8 W25 (Ne.symm n189)) W30 (Ne.symm n190)) W35 (Ne.symm n190)) K68 (ninS (Ne.symm n198) (ninS (Ne.symm n197) (ninS (Ne.symm n196) (ninS (Ne.symm n195) (ninS (Ne.symm n194) (ninS (Ne.symm n193) (ninS (Ne.symm n192) (ninS (Ne.symm n191) nin0))))))))) W69 (Ne.symm n199)) W74 (Ne.symm n200)) W89 (Ne.symm n200))
  refine own_callS (W := 0) X89 hx hZ (y := (⟨"com/example/wayfold/wayfold/engine/TimelineCopyPinLaw", "fillAll", "(Lcom/example/wayfold/wayfold/engine/DayTiming$Timeline;II)V"⟩ : MethodName)) hown (own_w hw 34 rfl) (own_w hw 35 rfl) (own_w hw 36 rfl) (own_w hw 37 rfl) (by decide) (by rw [hml]; rfl) (argsL := [(.ref b13), (.int old), (.int (-3 : Int32))]) pd_2 rfl (rm3 l Z a0 hw [] b13 old (-3 : Int32) b24_1 b24_2 b24_3 b24_4 b24_5 b24_6 b24_7 b24_8 (.double (0 : UInt64)) (.double (0 : UInt64)) (.double (0 : UInt64)) (.double (0 : UInt64)) (.double (0 : UInt64)) (.double (0 : UInt64)) (.double (0 : UInt64)) (.double (0 : UInt64)) (.double (0 : UInt64)) (.double (0 : UInt64)) (.double (0 : UInt64)) (.double (0 : UInt64)) (.double (0 : UInt64)) (.double (0 : UInt64)) (.double (0 : UInt64)) (.double (0 : UInt64)) (.double (0 : UInt64)) (.double (0 : UInt64)) (.double (0 : UInt64)) (.double (0 : UInt64)) (.double (0 : UInt64)) (.double (0 : UInt64)) (.double (0 : UInt64)) (.double (0 : UInt64)) h89 n0 sz89 F24_90 F24_91 F24_92 F24_93 F24_94 F24_95 F24_96 F24_97 V24_110 V24_123 V24_136 V24_149 V24_162 V24_175 V24_188 V24_201 (Nat.lt_trans lx24 q24_0) q24_1 q24_2 q24_3 q24_4 q24_5 q24_6 q24_7 g_b24_1 g_b24_2 g_b24_3 g_b24_4 g_b24_5 g_b24_6 g_b24_7 g_b24_8) (by decide) (by decide) (Nat.le_of_eq rfl) (by decide) (by decide) (rest := []) e89 rfl (hb hby at_113) ?_
  intro v202 T202 L202 X202 hQ202
  obtain ⟨rfl, N202q, K202, V202_0, V202_1, V202_2, V202_3, V202_4, V202_5, V202_6, V202_7⟩ := hQ202
  have N202 := Fr.app N89 N202q
  have sz202 : n0 ≤ T202.heap.size := Nat.le_trans sz89 K202.1
  rcases own_l3 (h_len ▸ (own_m3 p1).1) (h_len ▸ (own_m3 p1).2) with rfl | rfl | rfl
  · show own_Go p e below _ T202 (mkF m 116 #[.val (.int p1), .val (.int p2), .val (.int p3), .val (.int p4), .val (.int p5), .val (.int p6), .val (.int (0 : Int32)), .val (.int src), .val (.int old), .val (.ref b1), .val (.ref b13)] [])
    refine own_by (fun t_ k_ => XS.aload X202.here hx rfl (hb hby at_116) rfl rfl k_) ?_
    show own_Go p e below _ T202 (mkF m 118 #[.val (.int p1), .val (.int p2), .val (.int p3), .val (.int p4), .val (.int p5), .val (.int p6), .val (.int (0 : Int32)), .val (.int src), .val (.int old), .val (.ref b1), .val (.ref b13)] [(.ref b13)])
    refine own_by (fun t_ k_ => XS.aload X202.here hx rfl (hb hby at_118) rfl rfl k_) ?_
    show own_Go p e below _ T202 (mkF m 120 #[.val (.int p1), .val (.int p2), .val (.int p3), .val (.int p4), .val (.int p5), .val (.int p6), .val (.int (0 : Int32)), .val (.int src), .val (.int old), .val (.ref b1), .val (.ref b13)] [(.ref b1), (.ref b13)])
    have E24_203 : Exa Z T202.heap b13 "com/example/wayfold/wayfold/engine/DayTiming$Timeline" := (Exa.keep (Exa.wr W89 (Exa.wr W74 (Exa.wr W69 E24_71))) K202)
    have F69_204 : Fld Z T202.heap b13 "com/example/wayfold/wayfold/engine/DayTiming$Timeline" "length" "I" (.int ((p6 &&& (2147483647 : Int32)) % (3 : Int32))) := (Fld.keep (Fld.other W89 (Fld.other W74 F69 (Or.inl n85)) (Or.inl n85)) K202 (ninS n108 (ninS n121 (ninS n134 (ninS n147 (ninS n160 (ninS n173 (ninS n186 (ninS n199 nin0)))))))))
    have F25_205 : Fld Z T202.heap b1 "com/example/wayfold/wayfold/engine/DayTiming$Timeline" "length" "I" (.int (0 : Int32)) := (Fld.keep (Fld.other W89 (Fld.other W74 (Fld.other W69 (Fld.keep (Fld.other W35 (Fld.other W30 F25 (Or.inl n31)) (Or.inl n31)) K68 (ninS n44 (ninS n47 (ninS n50 (ninS n53 (ninS n56 (ninS n59 (ninS n62 (ninS n65 nin0))))))))) (Or.inl (Nat.ne_of_lt lt_b1_b13))) (Or.inl n75)) (Or.inl n75)) K202 (ninS n98 (ninS n111 (ninS n124 (ninS n137 (ninS n150 (ninS n163 (ninS n176 (ninS n189 nin0)))))))))
    have F24_206 : Fld Z T202.heap b13 "com/example/wayfold/wayfold/engine/DayTiming$Timeline" "nodes" "[I" (.ref b24_0) := (Fld.keep (Fld.other W89 F24_88 (Or.inl n85)) K202 (ninS n108 (ninS n121 (ninS n134 (ninS n147 (ninS n160 (ninS n173 (ninS n186 (ninS n199 nin0)))))))))
    have F24_207 : Fld Z T202.heap b13 "com/example/wayfold/wayfold/engine/DayTiming$Timeline" "leave" "[D" (.ref b24_1) := (Fld.keep F24_90 K202 (ninS n108 (ninS n121 (ninS n134 (ninS n147 (ninS n160 (ninS n173 (ninS n186 (ninS n199 nin0)))))))))
    have F24_208 : Fld Z T202.heap b13 "com/example/wayfold/wayfold/engine/DayTiming$Timeline" "interest" "[D" (.ref b24_2) := (Fld.keep F24_91 K202 (ninS n108 (ninS n121 (ninS n134 (ninS n147 (ninS n160 (ninS n173 (ninS n186 (ninS n199 nin0)))))))))
    have F24_209 : Fld Z T202.heap b13 "com/example/wayfold/wayfold/engine/DayTiming$Timeline" "travel" "[D" (.ref b24_3) := (Fld.keep F24_92 K202 (ninS n108 (ninS n121 (ninS n134 (ninS n147 (ninS n160 (ninS n173 (ninS n186 (ninS n199 nin0)))))))))
    have F24_210 : Fld Z T202.heap b13 "com/example/wayfold/wayfold/engine/DayTiming$Timeline" "visit" "[D" (.ref b24_4) := (Fld.keep F24_93 K202 (ninS n108 (ninS n121 (ninS n134 (ninS n147 (ninS n160 (ninS n173 (ninS n186 (ninS n199 nin0)))))))))
    have F24_211 : Fld Z T202.heap b13 "com/example/wayfold/wayfold/engine/DayTiming$Timeline" "waiting" "[D" (.ref b24_5) := (Fld.keep F24_94 K202 (ninS n108 (ninS n121 (ninS n134 (ninS n147 (ninS n160 (ninS n173 (ninS n186 (ninS n199 nin0)))))))))
    have F24_212 : Fld Z T202.heap b13 "com/example/wayfold/wayfold/engine/DayTiming$Timeline" "load" "[D" (.ref b24_6) := (Fld.keep F24_95 K202 (ninS n108 (ninS n121 (ninS n134 (ninS n147 (ninS n160 (ninS n173 (ninS n186 (ninS n199 nin0)))))))))
    have F24_213 : Fld Z T202.heap b13 "com/example/wayfold/wayfold/engine/DayTiming$Timeline" "latest" "[D" (.ref b24_7) := (Fld.keep F24_96 K202 (ninS n108 (ninS n121 (ninS n134 (ninS n147 (ninS n160 (ninS n173 (ninS n186 (ninS n199 nin0)))))))))
    have F24_214 : Fld Z T202.heap b13 "com/example/wayfold/wayfold/engine/DayTiming$Timeline" "best" "[D" (.ref b24_8) := (Fld.keep F24_97 K202 (ninS n108 (ninS n121 (ninS n134 (ninS n147 (ninS n160 (ninS n173 (ninS n186 (ninS n199 nin0)))))))))
    have F12_215 : Fld Z T202.heap b1 "com/example/wayfold/wayfold/engine/DayTiming$Timeline" "nodes" "[I" (.ref b12_0) := (Fld.keep (Fld.other W89 (Fld.other W74 (Fld.other W69 (Fld.keep (Fld.other W35 F12_34 (Or.inl n31)) K68 (ninS n44 (ninS n47 (ninS n50 (ninS n53 (ninS n56 (ninS n59 (ninS n62 (ninS n65 nin0))))))))) (Or.inl (Nat.ne_of_lt lt_b1_b13))) (Or.inl n75)) (Or.inl n75)) K202 (ninS n98 (ninS n111 (ninS n124 (ninS n137 (ninS n150 (ninS n163 (ninS n176 (ninS n189 nin0)))))))))
    have F12_216 : Fld Z T202.heap b1 "com/example/wayfold/wayfold/engine/DayTiming$Timeline" "leave" "[D" (.ref b12_1) := (Fld.keep (Fld.other W89 (Fld.other W74 (Fld.other W69 (Fld.keep F12_36 K68 (ninS n44 (ninS n47 (ninS n50 (ninS n53 (ninS n56 (ninS n59 (ninS n62 (ninS n65 nin0))))))))) (Or.inl (Nat.ne_of_lt lt_b1_b13))) (Or.inl n75)) (Or.inl n75)) K202 (ninS n98 (ninS n111 (ninS n124 (ninS n137 (ninS n150 (ninS n163 (ninS n176 (ninS n189 nin0)))))))))
    have F12_217 : Fld Z T202.heap b1 "com/example/wayfold/wayfold/engine/DayTiming$Timeline" "interest" "[D" (.ref b12_2) := (Fld.keep (Fld.other W89 (Fld.other W74 (Fld.other W69 (Fld.keep F12_37 K68 (ninS n44 (ninS n47 (ninS n50 (ninS n53 (ninS n56 (ninS n59 (ninS n62 (ninS n65 nin0))))))))) (Or.inl (Nat.ne_of_lt lt_b1_b13))) (Or.inl n75)) (Or.inl n75)) K202 (ninS n98 (ninS n111 (ninS n124 (ninS n137 (ninS n150 (ninS n163 (ninS n176 (ninS n189 nin0)))))))))
    have F12_218 : Fld Z T202.heap b1 "com/example/wayfold/wayfold/engine/DayTiming$Timeline" "travel" "[D" (.ref b12_3) := (Fld.keep (Fld.other W89 (Fld.other W74 (Fld.other W69 (Fld.keep F12_38 K68 (ninS n44 (ninS n47 (ninS n50 (ninS n53 (ninS n56 (ninS n59 (ninS n62 (ninS n65 nin0))))))))) (Or.inl (Nat.ne_of_lt lt_b1_b13))) (Or.inl n75)) (Or.inl n75)) K202 (ninS n98 (ninS n111 (ninS n124 (ninS n137 (ninS n150 (ninS n163 (ninS n176 (ninS n189 nin0)))))))))
    have F12_219 : Fld Z T202.heap b1 "com/example/wayfold/wayfold/engine/DayTiming$Timeline" "visit" "[D" (.ref b12_4) := (Fld.keep (Fld.other W89 (Fld.other W74 (Fld.other W69 (Fld.keep F12_39 K68 (ninS n44 (ninS n47 (ninS n50 (ninS n53 (ninS n56 (ninS n59 (ninS n62 (ninS n65 nin0))))))))) (Or.inl (Nat.ne_of_lt lt_b1_b13))) (Or.inl n75)) (Or.inl n75)) K202 (ninS n98 (ninS n111 (ninS n124 (ninS n137 (ninS n150 (ninS n163 (ninS n176 (ninS n189 nin0)))))))))
    have F12_220 : Fld Z T202.heap b1 "com/example/wayfold/wayfold/engine/DayTiming$Timeline" "waiting" "[D" (.ref b12_5) := (Fld.keep (Fld.other W89 (Fld.other W74 (Fld.other W69 (Fld.keep F12_40 K68 (ninS n44 (ninS n47 (ninS n50 (ninS n53 (ninS n56 (ninS n59 (ninS n62 (ninS n65 nin0))))))))) (Or.inl (Nat.ne_of_lt lt_b1_b13))) (Or.inl n75)) (Or.inl n75)) K202 (ninS n98 (ninS n111 (ninS n124 (ninS n137 (ninS n150 (ninS n163 (ninS n176 (ninS n189 nin0)))))))))
    have F12_221 : Fld Z T202.heap b1 "com/example/wayfold/wayfold/engine/DayTiming$Timeline" "load" "[D" (.ref b12_6) := (Fld.keep (Fld.other W89 (Fld.other W74 (Fld.other W69 (Fld.keep F12_41 K68 (ninS n44 (ninS n47 (ninS n50 (ninS n53 (ninS n56 (ninS n59 (ninS n62 (ninS n65 nin0))))))))) (Or.inl (Nat.ne_of_lt lt_b1_b13))) (Or.inl n75)) (Or.inl n75)) K202 (ninS n98 (ninS n111 (ninS n124 (ninS n137 (ninS n150 (ninS n163 (ninS n176 (ninS n189 nin0)))))))))
    have F12_222 : Fld Z T202.heap b1 "com/example/wayfold/wayfold/engine/DayTiming$Timeline" "latest" "[D" (.ref b12_7) := (Fld.keep (Fld.other W89 (Fld.other W74 (Fld.other W69 (Fld.keep F12_42 K68 (ninS n44 (ninS n47 (ninS n50 (ninS n53 (ninS n56 (ninS n59 (ninS n62 (ninS n65 nin0))))))))) (Or.inl (Nat.ne_of_lt lt_b1_b13))) (Or.inl n75)) (Or.inl n75)) K202 (ninS n98 (ninS n111 (ninS n124 (ninS n137 (ninS n150 (ninS n163 (ninS n176 (ninS n189 nin0)))))))))
    have F12_223 : Fld Z T202.heap b1 "com/example/wayfold/wayfold/engine/DayTiming$Timeline" "best" "[D" (.ref b12_8) := (Fld.keep (Fld.other W89 (Fld.other W74 (Fld.other W69 (Fld.keep F12_43 K68 (ninS n44 (ninS n47 (ninS n50 (ninS n53 (ninS n56 (ninS n59 (ninS n62 (ninS n65 nin0))))))))) (Or.inl (Nat.ne_of_lt lt_b1_b13))) (Or.inl n75)) (Or.inl n75)) K202 (ninS n98 (ninS n111 (ninS n124 (ninS n137 (ninS n150 (ninS n163 (ninS n176 (ninS n189 nin0)))))))))
    have V89_224 : own_Arr Z T202.heap b24_0 .int [(.int (p2 ^^^ (-1 : Int32))), (.int (p3 ^^^ (-1 : Int32)))] := (own_Arr.keep V89_0 K202 (ninS n109 (ninS n122 (ninS n135 (ninS n148 (ninS n161 (ninS n174 (ninS n187 (ninS n200 nin0)))))))))
    have V35_225 : own_Arr Z T202.heap b12_0 .int [(.int p2), (.int p3)] := (own_Arr.keep (own_Arr.other (own_Arr.other (own_Arr.other (own_Arr.keep V35_0 K68 (ninS n45 (ninS n48 (ninS n51 (ninS n54 (ninS n57 (ninS n60 (ninS n63 (ninS n66 nin0))))))))) W69 (Nat.ne_of_lt lt_b12_0_b13)) W74 n76) W89 n76) K202 (ninS n99 (ninS n112 (ninS n125 (ninS n138 (ninS n151 (ninS n164 (ninS n177 (ninS n190 nin0)))))))))
    have V68_226 : own_Arr Z T202.heap b12_1 .double [(.double (FP.i2d src)), (.double (FP.i2d (src + 1))), (.double (FP.i2d (src + 2)))] := (own_Arr.keep (own_Arr.other (own_Arr.other (own_Arr.other V68_0 W69 (Nat.ne_of_lt lt_b12_1_b13)) W74 n84) W89 n84) K202 (ninS n107 (ninS n120 (ninS n133 (ninS n146 (ninS n159 (ninS n172 (ninS n185 (ninS n198 nin0)))))))))
    have V68_227 : own_Arr Z T202.heap b12_2 .double [(.double (FP.i2d (src + (3 : Int32)))), (.double (FP.i2d ((src + (3 : Int32)) + 1))), (.double (FP.i2d ((src + (3 : Int32)) + 2)))] := (own_Arr.keep (own_Arr.other (own_Arr.other (own_Arr.other V68_1 W69 (Nat.ne_of_lt lt_b12_2_b13)) W74 n83) W89 n83) K202 (ninS n106 (ninS n119 (ninS n132 (ninS n145 (ninS n158 (ninS n171 (ninS n184 (ninS n197 nin0)))))))))
    have V68_228 : own_Arr Z T202.heap b12_3 .double [(.double (FP.i2d (src + ((2 : Int32) * (3 : Int32))))), (.double (FP.i2d ((src + ((2 : Int32) * (3 : Int32))) + 1))), (.double (FP.i2d ((src + ((2 : Int32) * (3 : Int32))) + 2)))] := (own_Arr.keep (own_Arr.other (own_Arr.other (own_Arr.other V68_2 W69 (Nat.ne_of_lt lt_b12_3_b13)) W74 n82) W89 n82) K202 (ninS n105 (ninS n118 (ninS n131 (ninS n144 (ninS n157 (ninS n170 (ninS n183 (ninS n196 nin0)))))))))
    have V68_229 : own_Arr Z T202.heap b12_4 .double [(.double (FP.i2d (src + ((3 : Int32) * (3 : Int32))))), (.double (FP.i2d ((src + ((3 : Int32) * (3 : Int32))) + 1))), (.double (FP.i2d ((src + ((3 : Int32) * (3 : Int32))) + 2)))] := (own_Arr.keep (own_Arr.other (own_Arr.other (own_Arr.other V68_3 W69 (Nat.ne_of_lt lt_b12_4_b13)) W74 n81) W89 n81) K202 (ninS n104 (ninS n117 (ninS n130 (ninS n143 (ninS n156 (ninS n169 (ninS n182 (ninS n195 nin0)))))))))
    have V68_230 : own_Arr Z T202.heap b12_5 .double [(.double (FP.i2d (src + ((4 : Int32) * (3 : Int32))))), (.double (FP.i2d ((src + ((4 : Int32) * (3 : Int32))) + 1))), (.double (FP.i2d ((src + ((4 : Int32) * (3 : Int32))) + 2)))] := (own_Arr.keep (own_Arr.other (own_Arr.other (own_Arr.other V68_4 W69 (Nat.ne_of_lt lt_b12_5_b13)) W74 n80) W89 n80) K202 (ninS n103 (ninS n116 (ninS n129 (ninS n142 (ninS n155 (ninS n168 (ninS n181 (ninS n194 nin0)))))))))
    have V68_231 : own_Arr Z T202.heap b12_6 .double [(.double (FP.i2d (src + ((5 : Int32) * (3 : Int32))))), (.double (FP.i2d ((src + ((5 : Int32) * (3 : Int32))) + 1))), (.double (FP.i2d ((src + ((5 : Int32) * (3 : Int32))) + 2)))] := (own_Arr.keep (own_Arr.other (own_Arr.other (own_Arr.other V68_5 W69 (Nat.ne_of_lt lt_b12_6_b13)) W74 n79) W89 n79) K202 (ninS n102 (ninS n115 (ninS n128 (ninS n141 (ninS n154 (ninS n167 (ninS n180 (ninS n193 nin0)))))))))
    have V68_232 : own_Arr Z T202.heap b12_7 .double [(.double (FP.i2d (src + ((6 : Int32) * (3 : Int32))))), (.double (FP.i2d ((src + ((6 : Int32) * (3 : Int32))) + 1))), (.double (FP.i2d ((src + ((6 : Int32) * (3 : Int32))) + 2)))] := (own_Arr.keep (own_Arr.other (own_Arr.other (own_Arr.other V68_6 W69 (Nat.ne_of_lt lt_b12_7_b13)) W74 n78) W89 n78) K202 (ninS n101 (ninS n114 (ninS n127 (ninS n140 (ninS n153 (ninS n166 (ninS n179 (ninS n192 nin0)))))))))
    have V68_233 : own_Arr Z T202.heap b12_8 .double [(.double (FP.i2d (src + ((7 : Int32) * (3 : Int32))))), (.double (FP.i2d ((src + ((7 : Int32) * (3 : Int32))) + 1))), (.double (FP.i2d ((src + ((7 : Int32) * (3 : Int32))) + 2)))] := (own_Arr.keep (own_Arr.other (own_Arr.other (own_Arr.other V68_7 W69 (Nat.ne_of_lt lt_b12_8_b13)) W74 n77) W89 n77) K202 (ninS n100 (ninS n113 (ninS n126 (ninS n139 (ninS n152 (ninS n165 (ninS n178 (ninS n191 nin0)))))))))
    refine own_callV (W := 0) X202 hx hZ (y := (⟨"com/example/wayfold/wayfold/engine/DayTiming$Timeline", "copy", "(Lcom/example/wayfold/wayfold/engine/DayTiming$Timeline;)V"⟩ : MethodName)) (z := (⟨"com/example/wayfold/wayfold/engine/DayTiming$Timeline", "copy", "(Lcom/example/wayfold/wayfold/engine/DayTiming$Timeline;)V"⟩ : MethodName)) hown (own_w hw 49 rfl) (own_w hw 50 rfl) (notFace_of_selects (args := #[]) (mvT hZ (own_w hw 52 rfl))) (own_w hw 52 rfl) (own_w hw 51 rfl) (own_w hw 4 rfl) (own_w hw 53 rfl) (by decide) (by rw [hml]; rfl) (argsL := [(.ref b1)]) pd_4 rfl (a := b13) rfl E24_203 (rm5 l Z a0 hw [] b13 b1 b24_0 b24_1 b24_2 b24_3 b24_4 b24_5 b24_6 b24_7 b24_8 b12_0 b12_1 b12_2 b12_3 b12_4 b12_5 b12_6 b12_7 b12_8 _ _ 0 (.int (p2 ^^^ (-1 : Int32))) (.int (p3 ^^^ (-1 : Int32))) (.double (FP.i2d old)) (.double (FP.i2d (old + 1))) (.double (FP.i2d (old + 2))) (.double (FP.i2d (old + (-3 : Int32)))) (.double (FP.i2d ((old + (-3 : Int32)) + 1))) (.double (FP.i2d ((old + (-3 : Int32)) + 2))) (.double (FP.i2d (old + ((2 : Int32) * (-3 : Int32))))) (.double (FP.i2d ((old + ((2 : Int32) * (-3 : Int32))) + 1))) (.double (FP.i2d ((old + ((2 : Int32) * (-3 : Int32))) + 2))) (.double (FP.i2d (old + ((3 : Int32) * (-3 : Int32))))) (.double (FP.i2d ((old + ((3 : Int32) * (-3 : Int32))) + 1))) (.double (FP.i2d ((old + ((3 : Int32) * (-3 : Int32))) + 2))) (.double (FP.i2d (old + ((4 : Int32) * (-3 : Int32))))) (.double (FP.i2d ((old + ((4 : Int32) * (-3 : Int32))) + 1))) (.double (FP.i2d ((old + ((4 : Int32) * (-3 : Int32))) + 2))) (.double (FP.i2d (old + ((5 : Int32) * (-3 : Int32))))) (.double (FP.i2d ((old + ((5 : Int32) * (-3 : Int32))) + 1))) (.double (FP.i2d ((old + ((5 : Int32) * (-3 : Int32))) + 2))) (.double (FP.i2d (old + ((6 : Int32) * (-3 : Int32))))) (.double (FP.i2d ((old + ((6 : Int32) * (-3 : Int32))) + 1))) (.double (FP.i2d ((old + ((6 : Int32) * (-3 : Int32))) + 2))) (.double (FP.i2d (old + ((7 : Int32) * (-3 : Int32))))) (.double (FP.i2d ((old + ((7 : Int32) * (-3 : Int32))) + 1))) (.double (FP.i2d ((old + ((7 : Int32) * (-3 : Int32))) + 2))) (.int p2) (.int p3) (.double (FP.i2d src)) (.double (FP.i2d (src + 1))) (.double (FP.i2d (src + 2))) (.double (FP.i2d (src + (3 : Int32)))) (.double (FP.i2d ((src + (3 : Int32)) + 1))) (.double (FP.i2d ((src + (3 : Int32)) + 2))) (.double (FP.i2d (src + ((2 : Int32) * (3 : Int32))))) (.double (FP.i2d ((src + ((2 : Int32) * (3 : Int32))) + 1))) (.double (FP.i2d ((src + ((2 : Int32) * (3 : Int32))) + 2))) (.double (FP.i2d (src + ((3 : Int32) * (3 : Int32))))) (.double (FP.i2d ((src + ((3 : Int32) * (3 : Int32))) + 1))) (.double (FP.i2d ((src + ((3 : Int32) * (3 : Int32))) + 2))) (.double (FP.i2d (src + ((4 : Int32) * (3 : Int32))))) (.double (FP.i2d ((src + ((4 : Int32) * (3 : Int32))) + 1))) (.double (FP.i2d ((src + ((4 : Int32) * (3 : Int32))) + 2))) (.double (FP.i2d (src + ((5 : Int32) * (3 : Int32))))) (.double (FP.i2d ((src + ((5 : Int32) * (3 : Int32))) + 1))) (.double (FP.i2d ((src + ((5 : Int32) * (3 : Int32))) + 2))) (.double (FP.i2d (src + ((6 : Int32) * (3 : Int32))))) (.double (FP.i2d ((src + ((6 : Int32) * (3 : Int32))) + 1))) (.double (FP.i2d ((src + ((6 : Int32) * (3 : Int32))) + 2))) (.double (FP.i2d (src + ((7 : Int32) * (3 : Int32))))) (.double (FP.i2d ((src + ((7 : Int32) * (3 : Int32))) + 1))) (.double (FP.i2d ((src + ((7 : Int32) * (3 : Int32))) + 2))) T202.heap n0 sz202 E24_203 F69_204 F25_205 F24_206 F24_207 F24_208 F24_209 F24_210 F24_211 F24_212 F24_213 F24_214 F12_215 F12_216 F12_217 F12_218 F12_219 F12_220 F12_221 F12_222 F12_223 V89_224 V202_0 V202_1 V202_2 V202_3 V202_4 V202_5 V202_6 V202_7 V35_225 V68_226 V68_227 V68_228 V68_229 V68_230 V68_231 V68_232 V68_233 lx12 q12_0 q12_1 q12_2 q12_3 q12_4 q12_5 q12_6 q12_7 lt_b12_8_b13 lx24 q24_0 q24_1 q24_2 q24_3 q24_4 q24_5 q24_6 q24_7 g_b13 g_b24_0 g_b24_1 g_b24_2 g_b24_3 g_b24_4 g_b24_5 g_b24_6 g_b24_7 g_b24_8 (Or.inl ⟨rfl, rfl⟩)) (by decide) (by decide) (Nat.le_of_eq rfl) (by decide) (by decide) (rest := []) rfl (hb hby at_120) ?_
    intro v234 T234 L234 X234 hQ234
    obtain ⟨rfl, N234q, K234, E234, Fl234, ⟨F234_0, F234_1, F234_2, F234_3, F234_4, F234_5, F234_6, F234_7, F234_8⟩, V234_0, V234_1, V234_2, V234_3, V234_4, V234_5, V234_6, V234_7, V234_8⟩ := hQ234
    have N234 := Fr.app N202 N234q
    have sz234 : n0 ≤ T234.heap.size := Nat.le_trans sz202 K234.1
    show own_Go p e below _ T234 (mkF m 123 #[.val (.int p1), .val (.int p2), .val (.int p3), .val (.int p4), .val (.int p5), .val (.int p6), .val (.int (0 : Int32)), .val (.int src), .val (.int old), .val (.ref b1), .val (.ref b13)] [])
    refine own_by (fun t_ k_ => XS.aload X234.here hx rfl (hb hby at_123) rfl rfl k_) ?_
    show own_Go p e below _ T234 (mkF m 125 #[.val (.int p1), .val (.int p2), .val (.int p3), .val (.int p4), .val (.int p5), .val (.int p6), .val (.int (0 : Int32)), .val (.int src), .val (.int old), .val (.ref b1), .val (.ref b13)] [(.ref b13)])
    refine own_getF X234 hx hZ hown (own_w hw 31 rfl) Via.refl rfl Fl234 (hb hby at_125) ?_
    intro T235 X235 e235
    show own_Go p e below _ T235 (mkF m 128 #[.val (.int p1), .val (.int p2), .val (.int p3), .val (.int p4), .val (.int p5), .val (.int p6), .val (.int (0 : Int32)), .val (.int src), .val (.int old), .val (.ref b1), .val (.ref b13)] [(.int (0 : Int32))])
    refine own_by (fun t_ k_ => XS.iload X235.here hx rfl (hb hby at_128) rfl k_) ?_
    show own_Go p e below _ T235 (mkF m 130 #[.val (.int p1), .val (.int p2), .val (.int p3), .val (.int p4), .val (.int p5), .val (.int p6), .val (.int (0 : Int32)), .val (.int src), .val (.int old), .val (.ref b1), .val (.ref b13)] [(.int (0 : Int32)), (.int (0 : Int32))])
    refine own_icmp X235 hx 135 (hb hby at_130) (by decide) (by decide) (fun _ => ?_) (fun hc => absurd (show (0 : Int32) = (0 : Int32) from by decide) (by first | exact hc | exact not_not_intro hc))
    show own_Go p e below _ T235 (mkF m 135 #[.val (.int p1), .val (.int p2), .val (.int p3), .val (.int p4), .val (.int p5), .val (.int p6), .val (.int (0 : Int32)), .val (.int src), .val (.int old), .val (.ref b1), .val (.ref b13)] [])
    refine own_by (fun t_ k_ => XS.aload X235.here hx rfl (hb hby at_135) rfl rfl k_) ?_
    show own_Go p e below _ T235 (mkF m 137 #[.val (.int p1), .val (.int p2), .val (.int p3), .val (.int p4), .val (.int p5), .val (.int p6), .val (.int (0 : Int32)), .val (.int src), .val (.int old), .val (.ref b1), .val (.ref b13)] [(.ref b13)])
    refine own_getF X235 hx hZ hown (own_w hw 33 rfl) Via.refl e235 F234_0 (hb hby at_137) ?_
    intro T236 X236 e236
    show own_Go p e below _ T236 (mkF m 140 #[.val (.int p1), .val (.int p2), .val (.int p3), .val (.int p4), .val (.int p5), .val (.int p6), .val (.int (0 : Int32)), .val (.int src), .val (.int old), .val (.ref b1), .val (.ref b13)] [(.ref b24_0)])
    refine own_by (fun t_ k_ => XS.iconst X236.here hx rfl (hb hby at_140) k_) ?_
    show own_Go p e below _ T236 (mkF m 141 #[.val (.int p1), .val (.int p2), .val (.int p3), .val (.int p4), .val (.int p5), .val (.int p6), .val (.int (0 : Int32)), .val (.int src), .val (.int old), .val (.ref b1), .val (.ref b13)] [(.int (0 : Int32)), (.ref b24_0)])
    refine own_iaload X236 hx hZ e236 V234_0 (v := (.int (p2 ^^^ (-1 : Int32)))) 0 (by decide) rfl (hb hby at_141) ?_
    show own_Go p e below _ T236 (mkF m 142 #[.val (.int p1), .val (.int p2), .val (.int p3), .val (.int p4), .val (.int p5), .val (.int p6), .val (.int (0 : Int32)), .val (.int src), .val (.int old), .val (.ref b1), .val (.ref b13)] [(.int (p2 ^^^ (-1 : Int32)))])
    refine own_by (fun t_ k_ => XS.iload X236.here hx rfl (hb hby at_142) rfl k_) ?_
    show own_Go p e below _ T236 (mkF m 144 #[.val (.int p1), .val (.int p2), .val (.int p3), .val (.int p4), .val (.int p5), .val (.int p6), .val (.int (0 : Int32)), .val (.int src), .val (.int old), .val (.ref b1), .val (.ref b13)] [(.int (0 : Int32)), (.int (p2 ^^^ (-1 : Int32)))])
    refine own_by (fun t_ k_ => XS.iconst X236.here hx rfl (hb hby at_144) k_) ?_
    show own_Go p e below _ T236 (mkF m 145 #[.val (.int p1), .val (.int p2), .val (.int p3), .val (.int p4), .val (.int p5), .val (.int p6), .val (.int (0 : Int32)), .val (.int src), .val (.int old), .val (.ref b1), .val (.ref b13)] [(.int (1 : Int32)), (.int (0 : Int32)), (.int (p2 ^^^ (-1 : Int32)))])
    refine own_icmp X236 hx 152 (hb hby at_145) (by decide) (by decide) (fun _ => ?_) (fun hc => absurd (show (0 : Int32) < (1 : Int32) from by decide) (by first | exact hc | exact not_not_intro hc))
    show own_Go p e below _ T236 (mkF m 152 #[.val (.int p1), .val (.int p2), .val (.int p3), .val (.int p4), .val (.int p5), .val (.int p6), .val (.int (0 : Int32)), .val (.int src), .val (.int old), .val (.ref b1), .val (.ref b13)] [(.int (p2 ^^^ (-1 : Int32)))])
    refine own_by (fun t_ k_ => XS.iloadN X236.here hx rfl (hb hby at_152) rfl k_) ?_
    show own_Go p e below _ T236 (mkF m 153 #[.val (.int p1), .val (.int p2), .val (.int p3), .val (.int p4), .val (.int p5), .val (.int p6), .val (.int (0 : Int32)), .val (.int src), .val (.int old), .val (.ref b1), .val (.ref b13)] [(.int p2), (.int (p2 ^^^ (-1 : Int32)))])
    refine own_by (fun t_ k_ => XS.iconst X236.here hx rfl (hb hby at_153) k_) ?_
    show own_Go p e below _ T236 (mkF m 154 #[.val (.int p1), .val (.int p2), .val (.int p3), .val (.int p4), .val (.int p5), .val (.int p6), .val (.int (0 : Int32)), .val (.int src), .val (.int old), .val (.ref b1), .val (.ref b13)] [(.int (-1 : Int32)), (.int p2), (.int (p2 ^^^ (-1 : Int32)))])
    refine own_by (fun t_ k_ => XT.ixor X236.here hx rfl (hb hby at_154) rfl k_) ?_
    show own_Go p e below _ T236 (mkF m 155 #[.val (.int p1), .val (.int p2), .val (.int p3), .val (.int p4), .val (.int p5), .val (.int p6), .val (.int (0 : Int32)), .val (.int src), .val (.int old), .val (.ref b1), .val (.ref b13)] [(.int (p2 ^^^ (-1 : Int32))), (.int (p2 ^^^ (-1 : Int32)))])
    refine own_icmp X236 hx 160 (hb hby at_155) (by decide) (by decide) (fun _ => ?_) (fun hc => absurd (show (p2 ^^^ (-1 : Int32)) = (p2 ^^^ (-1 : Int32)) from rfl) (by first | exact hc | exact not_not_intro hc))
    show own_Go p e below _ T236 (mkF m 160 #[.val (.int p1), .val (.int p2), .val (.int p3), .val (.int p4), .val (.int p5), .val (.int p6), .val (.int (0 : Int32)), .val (.int src), .val (.int old), .val (.ref b1), .val (.ref b13)] [])
    refine own_by (fun t_ k_ => XS.aload X236.here hx rfl (hb hby at_160) rfl rfl k_) ?_
    show own_Go p e below _ T236 (mkF m 162 #[.val (.int p1), .val (.int p2), .val (.int p3), .val (.int p4), .val (.int p5), .val (.int p6), .val (.int (0 : Int32)), .val (.int src), .val (.int old), .val (.ref b1), .val (.ref b13)] [(.ref b13)])
    refine own_getF X236 hx hZ hown (own_w hw 33 rfl) Via.refl e236 F234_0 (hb hby at_162) ?_
    intro T237 X237 e237
    show own_Go p e below _ T237 (mkF m 165 #[.val (.int p1), .val (.int p2), .val (.int p3), .val (.int p4), .val (.int p5), .val (.int p6), .val (.int (0 : Int32)), .val (.int src), .val (.int old), .val (.ref b1), .val (.ref b13)] [(.ref b24_0)])
    refine own_by (fun t_ k_ => XS.iconst X237.here hx rfl (hb hby at_165) k_) ?_
    show own_Go p e below _ T237 (mkF m 166 #[.val (.int p1), .val (.int p2), .val (.int p3), .val (.int p4), .val (.int p5), .val (.int p6), .val (.int (0 : Int32)), .val (.int src), .val (.int old), .val (.ref b1), .val (.ref b13)] [(.int (1 : Int32)), (.ref b24_0)])
    refine own_iaload X237 hx hZ e237 V234_0 (v := (.int (p3 ^^^ (-1 : Int32)))) 1 (by decide) rfl (hb hby at_166) ?_
    show own_Go p e below _ T237 (mkF m 167 #[.val (.int p1), .val (.int p2), .val (.int p3), .val (.int p4), .val (.int p5), .val (.int p6), .val (.int (0 : Int32)), .val (.int src), .val (.int old), .val (.ref b1), .val (.ref b13)] [(.int (p3 ^^^ (-1 : Int32)))])
    refine own_by (fun t_ k_ => XS.iload X237.here hx rfl (hb hby at_167) rfl k_) ?_
    show own_Go p e below _ T237 (mkF m 169 #[.val (.int p1), .val (.int p2), .val (.int p3), .val (.int p4), .val (.int p5), .val (.int p6), .val (.int (0 : Int32)), .val (.int src), .val (.int old), .val (.ref b1), .val (.ref b13)] [(.int (0 : Int32)), (.int (p3 ^^^ (-1 : Int32)))])
    refine own_by (fun t_ k_ => XS.iconst X237.here hx rfl (hb hby at_169) k_) ?_
    show own_Go p e below _ T237 (mkF m 170 #[.val (.int p1), .val (.int p2), .val (.int p3), .val (.int p4), .val (.int p5), .val (.int p6), .val (.int (0 : Int32)), .val (.int src), .val (.int old), .val (.ref b1), .val (.ref b13)] [(.int (2 : Int32)), (.int (0 : Int32)), (.int (p3 ^^^ (-1 : Int32)))])
    refine own_icmp X237 hx 177 (hb hby at_170) (by decide) (by decide) (fun _ => ?_) (fun hc => absurd (show (0 : Int32) < (2 : Int32) from by decide) (by first | exact hc | exact not_not_intro hc))
    show own_Go p e below _ T237 (mkF m 177 #[.val (.int p1), .val (.int p2), .val (.int p3), .val (.int p4), .val (.int p5), .val (.int p6), .val (.int (0 : Int32)), .val (.int src), .val (.int old), .val (.ref b1), .val (.ref b13)] [(.int (p3 ^^^ (-1 : Int32)))])
    refine own_by (fun t_ k_ => XS.iloadN X237.here hx rfl (hb hby at_177) rfl k_) ?_
    show own_Go p e below _ T237 (mkF m 178 #[.val (.int p1), .val (.int p2), .val (.int p3), .val (.int p4), .val (.int p5), .val (.int p6), .val (.int (0 : Int32)), .val (.int src), .val (.int old), .val (.ref b1), .val (.ref b13)] [(.int p3), (.int (p3 ^^^ (-1 : Int32)))])
    refine own_by (fun t_ k_ => XS.iconst X237.here hx rfl (hb hby at_178) k_) ?_
    show own_Go p e below _ T237 (mkF m 179 #[.val (.int p1), .val (.int p2), .val (.int p3), .val (.int p4), .val (.int p5), .val (.int p6), .val (.int (0 : Int32)), .val (.int src), .val (.int old), .val (.ref b1), .val (.ref b13)] [(.int (-1 : Int32)), (.int p3), (.int (p3 ^^^ (-1 : Int32)))])
    refine own_by (fun t_ k_ => XT.ixor X237.here hx rfl (hb hby at_179) rfl k_) ?_
    show own_Go p e below _ T237 (mkF m 180 #[.val (.int p1), .val (.int p2), .val (.int p3), .val (.int p4), .val (.int p5), .val (.int p6), .val (.int (0 : Int32)), .val (.int src), .val (.int old), .val (.ref b1), .val (.ref b13)] [(.int (p3 ^^^ (-1 : Int32))), (.int (p3 ^^^ (-1 : Int32)))])
    refine own_icmp X237 hx 185 (hb hby at_180) (by decide) (by decide) (fun _ => ?_) (fun hc => absurd (show (p3 ^^^ (-1 : Int32)) = (p3 ^^^ (-1 : Int32)) from rfl) (by first | exact hc | exact not_not_intro hc))
    show own_Go p e below _ T237 (mkF m 185 #[.val (.int p1), .val (.int p2), .val (.int p3), .val (.int p4), .val (.int p5), .val (.int p6), .val (.int (0 : Int32)), .val (.int src), .val (.int old), .val (.ref b1), .val (.ref b13)] [])
    refine own_by (fun t_ k_ => XS.aload X237.here hx rfl (hb hby at_185) rfl rfl k_) ?_
    show own_Go p e below _ T237 (mkF m 187 #[.val (.int p1), .val (.int p2), .val (.int p3), .val (.int p4), .val (.int p5), .val (.int p6), .val (.int (0 : Int32)), .val (.int src), .val (.int old), .val (.ref b1), .val (.ref b13)] [(.ref b13)])
    refine own_by (fun t_ k_ => XS.iload X237.here hx rfl (hb hby at_187) rfl k_) ?_
    show own_Go p e below _ T237 (mkF m 189 #[.val (.int p1), .val (.int p2), .val (.int p3), .val (.int p4), .val (.int p5), .val (.int p6), .val (.int (0 : Int32)), .val (.int src), .val (.int old), .val (.ref b1), .val (.ref b13)] [(.int src), (.ref b13)])
    refine own_by (fun t_ k_ => XS.iload X237.here hx rfl (hb hby at_189) rfl k_) ?_
    show own_Go p e below _ T237 (mkF m 191 #[.val (.int p1), .val (.int p2), .val (.int p3), .val (.int p4), .val (.int p5), .val (.int p6), .val (.int (0 : Int32)), .val (.int src), .val (.int old), .val (.ref b1), .val (.ref b13)] [(.int old), (.int src), (.ref b13)])
    refine own_by (fun t_ k_ => XS.iload X237.here hx rfl (hb hby at_191) rfl k_) ?_
    show own_Go p e below _ T237 (mkF m 193 #[.val (.int p1), .val (.int p2), .val (.int p3), .val (.int p4), .val (.int p5), .val (.int p6), .val (.int (0 : Int32)), .val (.int src), .val (.int old), .val (.ref b1), .val (.ref b13)] [(.int (0 : Int32)), (.int old), (.int src), (.ref b13)])
    refine own_callS (W := 0) X237 hx hZ (y := (⟨"com/example/wayfold/wayfold/engine/TimelineCopyPinLaw", "okAll", "(Lcom/example/wayfold/wayfold/engine/DayTiming$Timeline;III)Z"⟩ : MethodName)) hown (own_w hw 59 rfl) (own_w hw 60 rfl) (own_w hw 36 rfl) (own_w hw 61 rfl) (by decide) (by rw [hml]; rfl) (argsL := [(.ref b13), (.int src), (.int old), (.int (0 : Int32))]) pd_6 rfl (rm6 l Z a0 hw [] b13 src old (0 : Int32) b24_1 b24_2 b24_3 b24_4 b24_5 b24_6 b24_7 b24_8 src (old + 1) (old + 2) (src + (3 : Int32)) ((old + (-3 : Int32)) + 1) ((old + (-3 : Int32)) + 2) (src + ((2 : Int32) * (3 : Int32))) ((old + ((2 : Int32) * (-3 : Int32))) + 1) ((old + ((2 : Int32) * (-3 : Int32))) + 2) (src + ((3 : Int32) * (3 : Int32))) ((old + ((3 : Int32) * (-3 : Int32))) + 1) ((old + ((3 : Int32) * (-3 : Int32))) + 2) (src + ((4 : Int32) * (3 : Int32))) ((old + ((4 : Int32) * (-3 : Int32))) + 1) ((old + ((4 : Int32) * (-3 : Int32))) + 2) (src + ((5 : Int32) * (3 : Int32))) ((old + ((5 : Int32) * (-3 : Int32))) + 1) ((old + ((5 : Int32) * (-3 : Int32))) + 2) (src + ((6 : Int32) * (3 : Int32))) ((old + ((6 : Int32) * (-3 : Int32))) + 1) ((old + ((6 : Int32) * (-3 : Int32))) + 2) (src + ((7 : Int32) * (3 : Int32))) ((old + ((7 : Int32) * (-3 : Int32))) + 1) ((old + ((7 : Int32) * (-3 : Int32))) + 2) T234.heap n0 sz234 F234_1 F234_2 F234_3 F234_4 F234_5 F234_6 F234_7 F234_8 V234_1 V234_2 V234_3 V234_4 V234_5 V234_6 V234_7 V234_8 (rfl : src = src) ((congrArg (· + 1) (rfl : old = old)).trans (if_pos (by decide)).symm) ((congrArg (· + 2) (rfl : old = old)).trans (if_pos (by decide)).symm) (own_s1 src) ((congrArg (· + 1) (own_o1 old)).trans (if_pos (by decide)).symm) ((congrArg (· + 2) (own_o1 old)).trans (if_pos (by decide)).symm) (own_s2 src) ((congrArg (· + 1) (own_o2 old)).trans (if_pos (by decide)).symm) ((congrArg (· + 2) (own_o2 old)).trans (if_pos (by decide)).symm) (own_s3 src) ((congrArg (· + 1) (own_o3 old)).trans (if_pos (by decide)).symm) ((congrArg (· + 2) (own_o3 old)).trans (if_pos (by decide)).symm) (own_s4 src) ((congrArg (· + 1) (own_o4 old)).trans (if_pos (by decide)).symm) ((congrArg (· + 2) (own_o4 old)).trans (if_pos (by decide)).symm) (own_s5 src) ((congrArg (· + 1) (own_o5 old)).trans (if_pos (by decide)).symm) ((congrArg (· + 2) (own_o5 old)).trans (if_pos (by decide)).symm) (own_s6 src) ((congrArg (· + 1) (own_o6 old)).trans (if_pos (by decide)).symm) ((congrArg (· + 2) (own_o6 old)).trans (if_pos (by decide)).symm) (own_s7 src) ((congrArg (· + 1) (own_o7 old)).trans (if_pos (by decide)).symm) ((congrArg (· + 2) (own_o7 old)).trans (if_pos (by decide)).symm)) (by decide) (by decide) (Nat.le_of_eq rfl) (by decide) (by decide) (rest := []) e237 rfl (hb hby at_193) ?_
    intro v238 T238 L238 X238 hQ238
    obtain ⟨rfl, N238q, e238⟩ := hQ238
    have N238 := Fr.app N234 N238q
    show own_Go p e below _ T238 (mkF m 196 #[.val (.int p1), .val (.int p2), .val (.int p3), .val (.int p4), .val (.int p5), .val (.int p6), .val (.int (0 : Int32)), .val (.int src), .val (.int old), .val (.ref b1), .val (.ref b13)] [(.int (1 : Int32))])
    refine own_if X238 hx 201 (hb hby at_196) (by decide) (by decide) (fun _ => ?_) (fun hc => absurd (show ¬ (1 : Int32) = (0 : Int32) from by decide) (by first | exact hc | exact not_not_intro hc))
    show own_Go p e below _ T238 (mkF m 201 #[.val (.int p1), .val (.int p2), .val (.int p3), .val (.int p4), .val (.int p5), .val (.int p6), .val (.int (0 : Int32)), .val (.int src), .val (.int old), .val (.ref b1), .val (.ref b13)] [])
    refine own_by (fun t_ k_ => XS.aload X238.here hx rfl (hb hby at_201) rfl rfl k_) ?_
    show own_Go p e below _ T238 (mkF m 203 #[.val (.int p1), .val (.int p2), .val (.int p3), .val (.int p4), .val (.int p5), .val (.int p6), .val (.int (0 : Int32)), .val (.int src), .val (.int old), .val (.ref b1), .val (.ref b13)] [(.ref b1)])
    have F25_240 : Fld Z T234.heap b1 "com/example/wayfold/wayfold/engine/DayTiming$Timeline" "length" "I" (.int (0 : Int32)) := (Fld.keep F25_205 K234 (ninS (Nat.ne_of_lt lt_b1_b13) (ninS n75 (ninS n98 (ninS n111 (ninS n124 (ninS n137 (ninS n150 (ninS n163 (ninS n176 (ninS n189 nin0)))))))))))
    refine own_getF X238 hx hZ hown (own_w hw 31 rfl) Via.refl e238 F25_240 (hb hby at_203) ?_
    intro T239 X239 e239
    show own_Go p e below _ T239 (mkF m 206 #[.val (.int p1), .val (.int p2), .val (.int p3), .val (.int p4), .val (.int p5), .val (.int p6), .val (.int (0 : Int32)), .val (.int src), .val (.int old), .val (.ref b1), .val (.ref b13)] [(.int (0 : Int32))])
    refine own_by (fun t_ k_ => XS.iload X239.here hx rfl (hb hby at_206) rfl k_) ?_
    show own_Go p e below _ T239 (mkF m 208 #[.val (.int p1), .val (.int p2), .val (.int p3), .val (.int p4), .val (.int p5), .val (.int p6), .val (.int (0 : Int32)), .val (.int src), .val (.int old), .val (.ref b1), .val (.ref b13)] [(.int (0 : Int32)), (.int (0 : Int32))])
    refine own_icmp X239 hx 233 (hb hby at_208) (by decide) (by decide) (fun hc => absurd (show (0 : Int32) = (0 : Int32) from by decide) (by first | exact hc | exact not_not_intro hc)) (fun _ => ?_)
    show own_Go p e below _ T239 (mkF m 211 #[.val (.int p1), .val (.int p2), .val (.int p3), .val (.int p4), .val (.int p5), .val (.int p6), .val (.int (0 : Int32)), .val (.int src), .val (.int old), .val (.ref b1), .val (.ref b13)] [])
    refine own_by (fun t_ k_ => XS.aload X239.here hx rfl (hb hby at_211) rfl rfl k_) ?_
    show own_Go p e below _ T239 (mkF m 213 #[.val (.int p1), .val (.int p2), .val (.int p3), .val (.int p4), .val (.int p5), .val (.int p6), .val (.int (0 : Int32)), .val (.int src), .val (.int old), .val (.ref b1), .val (.ref b13)] [(.ref b1)])
    have F12_242 : Fld Z T234.heap b1 "com/example/wayfold/wayfold/engine/DayTiming$Timeline" "nodes" "[I" (.ref b12_0) := (Fld.keep F12_215 K234 (ninS (Nat.ne_of_lt lt_b1_b13) (ninS n75 (ninS n98 (ninS n111 (ninS n124 (ninS n137 (ninS n150 (ninS n163 (ninS n176 (ninS n189 nin0)))))))))))
    refine own_getF X239 hx hZ hown (own_w hw 33 rfl) Via.refl e239 F12_242 (hb hby at_213) ?_
    intro T241 X241 e241
    show own_Go p e below _ T241 (mkF m 216 #[.val (.int p1), .val (.int p2), .val (.int p3), .val (.int p4), .val (.int p5), .val (.int p6), .val (.int (0 : Int32)), .val (.int src), .val (.int old), .val (.ref b1), .val (.ref b13)] [(.ref b12_0)])
    refine own_by (fun t_ k_ => XS.iconst X241.here hx rfl (hb hby at_216) k_) ?_
    show own_Go p e below _ T241 (mkF m 217 #[.val (.int p1), .val (.int p2), .val (.int p3), .val (.int p4), .val (.int p5), .val (.int p6), .val (.int (0 : Int32)), .val (.int src), .val (.int old), .val (.ref b1), .val (.ref b13)] [(.int (0 : Int32)), (.ref b12_0)])
    have V35_243 : own_Arr Z T234.heap b12_0 .int [(.int p2), (.int p3)] := (own_Arr.keep V35_225 K234 (ninS (Nat.ne_of_lt lt_b12_0_b13) (ninS n76 (ninS n99 (ninS n112 (ninS n125 (ninS n138 (ninS n151 (ninS n164 (ninS n177 (ninS n190 nin0)))))))))))
    refine own_iaload X241 hx hZ e241 V35_243 (v := (.int p2)) 0 (by decide) rfl (hb hby at_217) ?_
    show own_Go p e below _ T241 (mkF m 218 #[.val (.int p1), .val (.int p2), .val (.int p3), .val (.int p4), .val (.int p5), .val (.int p6), .val (.int (0 : Int32)), .val (.int src), .val (.int old), .val (.ref b1), .val (.ref b13)] [(.int p2)])
    refine own_by (fun t_ k_ => XS.iloadN X241.here hx rfl (hb hby at_218) rfl k_) ?_
    show own_Go p e below _ T241 (mkF m 219 #[.val (.int p1), .val (.int p2), .val (.int p3), .val (.int p4), .val (.int p5), .val (.int p6), .val (.int (0 : Int32)), .val (.int src), .val (.int old), .val (.ref b1), .val (.ref b13)] [(.int p2), (.int p2)])
    refine own_icmp X241 hx 233 (hb hby at_219) (by decide) (by decide) (fun hc => absurd (show p2 = p2 from rfl) (by first | exact hc | exact not_not_intro hc)) (fun _ => ?_)
    show own_Go p e below _ T241 (mkF m 222 #[.val (.int p1), .val (.int p2), .val (.int p3), .val (.int p4), .val (.int p5), .val (.int p6), .val (.int (0 : Int32)), .val (.int src), .val (.int old), .val (.ref b1), .val (.ref b13)] [])
    refine own_by (fun t_ k_ => XS.aload X241.here hx rfl (hb hby at_222) rfl rfl k_) ?_
    show own_Go p e below _ T241 (mkF m 224 #[.val (.int p1), .val (.int p2), .val (.int p3), .val (.int p4), .val (.int p5), .val (.int p6), .val (.int (0 : Int32)), .val (.int src), .val (.int old), .val (.ref b1), .val (.ref b13)] [(.ref b1)])
    refine own_getF X241 hx hZ hown (own_w hw 33 rfl) Via.refl e241 F12_242 (hb hby at_224) ?_
    intro T244 X244 e244
    show own_Go p e below _ T244 (mkF m 227 #[.val (.int p1), .val (.int p2), .val (.int p3), .val (.int p4), .val (.int p5), .val (.int p6), .val (.int (0 : Int32)), .val (.int src), .val (.int old), .val (.ref b1), .val (.ref b13)] [(.ref b12_0)])
    refine own_by (fun t_ k_ => XS.iconst X244.here hx rfl (hb hby at_227) k_) ?_
    show own_Go p e below _ T244 (mkF m 228 #[.val (.int p1), .val (.int p2), .val (.int p3), .val (.int p4), .val (.int p5), .val (.int p6), .val (.int (0 : Int32)), .val (.int src), .val (.int old), .val (.ref b1), .val (.ref b13)] [(.int (1 : Int32)), (.ref b12_0)])
    refine own_iaload X244 hx hZ e244 V35_243 (v := (.int p3)) 1 (by decide) rfl (hb hby at_228) ?_
    show own_Go p e below _ T244 (mkF m 229 #[.val (.int p1), .val (.int p2), .val (.int p3), .val (.int p4), .val (.int p5), .val (.int p6), .val (.int (0 : Int32)), .val (.int src), .val (.int old), .val (.ref b1), .val (.ref b13)] [(.int p3)])
    refine own_by (fun t_ k_ => XS.iloadN X244.here hx rfl (hb hby at_229) rfl k_) ?_
    show own_Go p e below _ T244 (mkF m 230 #[.val (.int p1), .val (.int p2), .val (.int p3), .val (.int p4), .val (.int p5), .val (.int p6), .val (.int (0 : Int32)), .val (.int src), .val (.int old), .val (.ref b1), .val (.ref b13)] [(.int p3), (.int p3)])
    refine own_icmp X244 hx 235 (hb hby at_230) (by decide) (by decide) (fun _ => ?_) (fun hc => absurd (show p3 = p3 from rfl) (by first | exact hc | exact not_not_intro hc))
    show own_Go p e below _ T244 (mkF m 235 #[.val (.int p1), .val (.int p2), .val (.int p3), .val (.int p4), .val (.int p5), .val (.int p6), .val (.int (0 : Int32)), .val (.int src), .val (.int old), .val (.ref b1), .val (.ref b13)] [])
    refine own_by (fun t_ k_ => XS.aload X244.here hx rfl (hb hby at_235) rfl rfl k_) ?_
    show own_Go p e below _ T244 (mkF m 237 #[.val (.int p1), .val (.int p2), .val (.int p3), .val (.int p4), .val (.int p5), .val (.int p6), .val (.int (0 : Int32)), .val (.int src), .val (.int old), .val (.ref b1), .val (.ref b13)] [(.ref b1)])
    refine own_by (fun t_ k_ => XS.iload X244.here hx rfl (hb hby at_237) rfl k_) ?_
    show own_Go p e below _ T244 (mkF m 239 #[.val (.int p1), .val (.int p2), .val (.int p3), .val (.int p4), .val (.int p5), .val (.int p6), .val (.int (0 : Int32)), .val (.int src), .val (.int old), .val (.ref b1), .val (.ref b13)] [(.int src), (.ref b1)])
    refine own_by (fun t_ k_ => XS.iload X244.here hx rfl (hb hby at_239) rfl k_) ?_
    show own_Go p e below _ T244 (mkF m 241 #[.val (.int p1), .val (.int p2), .val (.int p3), .val (.int p4), .val (.int p5), .val (.int p6), .val (.int (0 : Int32)), .val (.int src), .val (.int old), .val (.ref b1), .val (.ref b13)] [(.int src), (.int src), (.ref b1)])
    refine own_by (fun t_ k_ => XS.iconst X244.here hx rfl (hb hby at_241) k_) ?_
    show own_Go p e below _ T244 (mkF m 242 #[.val (.int p1), .val (.int p2), .val (.int p3), .val (.int p4), .val (.int p5), .val (.int p6), .val (.int (0 : Int32)), .val (.int src), .val (.int old), .val (.ref b1), .val (.ref b13)] [(.int (2 : Int32)), (.int src), (.int src), (.ref b1)])
    have F12_245 : Fld Z T234.heap b1 "com/example/wayfold/wayfold/engine/DayTiming$Timeline" "leave" "[D" (.ref b12_1) := (Fld.keep F12_216 K234 (ninS (Nat.ne_of_lt lt_b1_b13) (ninS n75 (ninS n98 (ninS n111 (ninS n124 (ninS n137 (ninS n150 (ninS n163 (ninS n176 (ninS n189 nin0)))))))))))
    have F12_246 : Fld Z T234.heap b1 "com/example/wayfold/wayfold/engine/DayTiming$Timeline" "interest" "[D" (.ref b12_2) := (Fld.keep F12_217 K234 (ninS (Nat.ne_of_lt lt_b1_b13) (ninS n75 (ninS n98 (ninS n111 (ninS n124 (ninS n137 (ninS n150 (ninS n163 (ninS n176 (ninS n189 nin0)))))))))))
    have F12_247 : Fld Z T234.heap b1 "com/example/wayfold/wayfold/engine/DayTiming$Timeline" "travel" "[D" (.ref b12_3) := (Fld.keep F12_218 K234 (ninS (Nat.ne_of_lt lt_b1_b13) (ninS n75 (ninS n98 (ninS n111 (ninS n124 (ninS n137 (ninS n150 (ninS n163 (ninS n176 (ninS n189 nin0)))))))))))
    have F12_248 : Fld Z T234.heap b1 "com/example/wayfold/wayfold/engine/DayTiming$Timeline" "visit" "[D" (.ref b12_4) := (Fld.keep F12_219 K234 (ninS (Nat.ne_of_lt lt_b1_b13) (ninS n75 (ninS n98 (ninS n111 (ninS n124 (ninS n137 (ninS n150 (ninS n163 (ninS n176 (ninS n189 nin0)))))))))))
    have F12_249 : Fld Z T234.heap b1 "com/example/wayfold/wayfold/engine/DayTiming$Timeline" "waiting" "[D" (.ref b12_5) := (Fld.keep F12_220 K234 (ninS (Nat.ne_of_lt lt_b1_b13) (ninS n75 (ninS n98 (ninS n111 (ninS n124 (ninS n137 (ninS n150 (ninS n163 (ninS n176 (ninS n189 nin0)))))))))))
    have F12_250 : Fld Z T234.heap b1 "com/example/wayfold/wayfold/engine/DayTiming$Timeline" "load" "[D" (.ref b12_6) := (Fld.keep F12_221 K234 (ninS (Nat.ne_of_lt lt_b1_b13) (ninS n75 (ninS n98 (ninS n111 (ninS n124 (ninS n137 (ninS n150 (ninS n163 (ninS n176 (ninS n189 nin0)))))))))))
    have F12_251 : Fld Z T234.heap b1 "com/example/wayfold/wayfold/engine/DayTiming$Timeline" "latest" "[D" (.ref b12_7) := (Fld.keep F12_222 K234 (ninS (Nat.ne_of_lt lt_b1_b13) (ninS n75 (ninS n98 (ninS n111 (ninS n124 (ninS n137 (ninS n150 (ninS n163 (ninS n176 (ninS n189 nin0)))))))))))
    have F12_252 : Fld Z T234.heap b1 "com/example/wayfold/wayfold/engine/DayTiming$Timeline" "best" "[D" (.ref b12_8) := (Fld.keep F12_223 K234 (ninS (Nat.ne_of_lt lt_b1_b13) (ninS n75 (ninS n98 (ninS n111 (ninS n124 (ninS n137 (ninS n150 (ninS n163 (ninS n176 (ninS n189 nin0)))))))))))
    have V68_253 : own_Arr Z T234.heap b12_1 .double [(.double (FP.i2d src)), (.double (FP.i2d (src + 1))), (.double (FP.i2d (src + 2)))] := (own_Arr.keep V68_226 K234 (ninS (Nat.ne_of_lt lt_b12_1_b13) (ninS n84 (ninS n107 (ninS n120 (ninS n133 (ninS n146 (ninS n159 (ninS n172 (ninS n185 (ninS n198 nin0)))))))))))
    have V68_254 : own_Arr Z T234.heap b12_2 .double [(.double (FP.i2d (src + (3 : Int32)))), (.double (FP.i2d ((src + (3 : Int32)) + 1))), (.double (FP.i2d ((src + (3 : Int32)) + 2)))] := (own_Arr.keep V68_227 K234 (ninS (Nat.ne_of_lt lt_b12_2_b13) (ninS n83 (ninS n106 (ninS n119 (ninS n132 (ninS n145 (ninS n158 (ninS n171 (ninS n184 (ninS n197 nin0)))))))))))
    have V68_255 : own_Arr Z T234.heap b12_3 .double [(.double (FP.i2d (src + ((2 : Int32) * (3 : Int32))))), (.double (FP.i2d ((src + ((2 : Int32) * (3 : Int32))) + 1))), (.double (FP.i2d ((src + ((2 : Int32) * (3 : Int32))) + 2)))] := (own_Arr.keep V68_228 K234 (ninS (Nat.ne_of_lt lt_b12_3_b13) (ninS n82 (ninS n105 (ninS n118 (ninS n131 (ninS n144 (ninS n157 (ninS n170 (ninS n183 (ninS n196 nin0)))))))))))
    have V68_256 : own_Arr Z T234.heap b12_4 .double [(.double (FP.i2d (src + ((3 : Int32) * (3 : Int32))))), (.double (FP.i2d ((src + ((3 : Int32) * (3 : Int32))) + 1))), (.double (FP.i2d ((src + ((3 : Int32) * (3 : Int32))) + 2)))] := (own_Arr.keep V68_229 K234 (ninS (Nat.ne_of_lt lt_b12_4_b13) (ninS n81 (ninS n104 (ninS n117 (ninS n130 (ninS n143 (ninS n156 (ninS n169 (ninS n182 (ninS n195 nin0)))))))))))
    have V68_257 : own_Arr Z T234.heap b12_5 .double [(.double (FP.i2d (src + ((4 : Int32) * (3 : Int32))))), (.double (FP.i2d ((src + ((4 : Int32) * (3 : Int32))) + 1))), (.double (FP.i2d ((src + ((4 : Int32) * (3 : Int32))) + 2)))] := (own_Arr.keep V68_230 K234 (ninS (Nat.ne_of_lt lt_b12_5_b13) (ninS n80 (ninS n103 (ninS n116 (ninS n129 (ninS n142 (ninS n155 (ninS n168 (ninS n181 (ninS n194 nin0)))))))))))
    have V68_258 : own_Arr Z T234.heap b12_6 .double [(.double (FP.i2d (src + ((5 : Int32) * (3 : Int32))))), (.double (FP.i2d ((src + ((5 : Int32) * (3 : Int32))) + 1))), (.double (FP.i2d ((src + ((5 : Int32) * (3 : Int32))) + 2)))] := (own_Arr.keep V68_231 K234 (ninS (Nat.ne_of_lt lt_b12_6_b13) (ninS n79 (ninS n102 (ninS n115 (ninS n128 (ninS n141 (ninS n154 (ninS n167 (ninS n180 (ninS n193 nin0)))))))))))
    have V68_259 : own_Arr Z T234.heap b12_7 .double [(.double (FP.i2d (src + ((6 : Int32) * (3 : Int32))))), (.double (FP.i2d ((src + ((6 : Int32) * (3 : Int32))) + 1))), (.double (FP.i2d ((src + ((6 : Int32) * (3 : Int32))) + 2)))] := (own_Arr.keep V68_232 K234 (ninS (Nat.ne_of_lt lt_b12_7_b13) (ninS n78 (ninS n101 (ninS n114 (ninS n127 (ninS n140 (ninS n153 (ninS n166 (ninS n179 (ninS n192 nin0)))))))))))
    have V68_260 : own_Arr Z T234.heap b12_8 .double [(.double (FP.i2d (src + ((7 : Int32) * (3 : Int32))))), (.double (FP.i2d ((src + ((7 : Int32) * (3 : Int32))) + 1))), (.double (FP.i2d ((src + ((7 : Int32) * (3 : Int32))) + 2)))] := (own_Arr.keep V68_233 K234 (ninS (Nat.ne_of_lt lt_b12_8_b13) (ninS n77 (ninS n100 (ninS n113 (ninS n126 (ninS n139 (ninS n152 (ninS n165 (ninS n178 (ninS n191 nin0)))))))))))
    refine own_callS (W := 0) X244 hx hZ (y := (⟨"com/example/wayfold/wayfold/engine/TimelineCopyPinLaw", "okAll", "(Lcom/example/wayfold/wayfold/engine/DayTiming$Timeline;III)Z"⟩ : MethodName)) hown (own_w hw 59 rfl) (own_w hw 60 rfl) (own_w hw 36 rfl) (own_w hw 61 rfl) (by decide) (by rw [hml]; rfl) (argsL := [(.ref b1), (.int src), (.int src), (.int (2 : Int32))]) pd_6 rfl (rm6 l Z a0 hw [] b1 src src (2 : Int32) b12_1 b12_2 b12_3 b12_4 b12_5 b12_6 b12_7 b12_8 src (src + 1) (src + 2) (src + (3 : Int32)) ((src + (3 : Int32)) + 1) ((src + (3 : Int32)) + 2) (src + ((2 : Int32) * (3 : Int32))) ((src + ((2 : Int32) * (3 : Int32))) + 1) ((src + ((2 : Int32) * (3 : Int32))) + 2) (src + ((3 : Int32) * (3 : Int32))) ((src + ((3 : Int32) * (3 : Int32))) + 1) ((src + ((3 : Int32) * (3 : Int32))) + 2) (src + ((4 : Int32) * (3 : Int32))) ((src + ((4 : Int32) * (3 : Int32))) + 1) ((src + ((4 : Int32) * (3 : Int32))) + 2) (src + ((5 : Int32) * (3 : Int32))) ((src + ((5 : Int32) * (3 : Int32))) + 1) ((src + ((5 : Int32) * (3 : Int32))) + 2) (src + ((6 : Int32) * (3 : Int32))) ((src + ((6 : Int32) * (3 : Int32))) + 1) ((src + ((6 : Int32) * (3 : Int32))) + 2) (src + ((7 : Int32) * (3 : Int32))) ((src + ((7 : Int32) * (3 : Int32))) + 1) ((src + ((7 : Int32) * (3 : Int32))) + 2) T234.heap n0 sz234 F12_245 F12_246 F12_247 F12_248 F12_249 F12_250 F12_251 F12_252 V68_253 V68_254 V68_255 V68_256 V68_257 V68_258 V68_259 V68_260 (rfl : src = src) ((congrArg (· + 1) (rfl : src = src)).trans (if_neg (by decide)).symm) ((congrArg (· + 2) (rfl : src = src)).trans (if_neg (by decide)).symm) (own_s1 src) ((congrArg (· + 1) (own_s1 src)).trans (if_neg (by decide)).symm) ((congrArg (· + 2) (own_s1 src)).trans (if_neg (by decide)).symm) (own_s2 src) ((congrArg (· + 1) (own_s2 src)).trans (if_neg (by decide)).symm) ((congrArg (· + 2) (own_s2 src)).trans (if_neg (by decide)).symm) (own_s3 src) ((congrArg (· + 1) (own_s3 src)).trans (if_neg (by decide)).symm) ((congrArg (· + 2) (own_s3 src)).trans (if_neg (by decide)).symm) (own_s4 src) ((congrArg (· + 1) (own_s4 src)).trans (if_neg (by decide)).symm) ((congrArg (· + 2) (own_s4 src)).trans (if_neg (by decide)).symm) (own_s5 src) ((congrArg (· + 1) (own_s5 src)).trans (if_neg (by decide)).symm) ((congrArg (· + 2) (own_s5 src)).trans (if_neg (by decide)).symm) (own_s6 src) ((congrArg (· + 1) (own_s6 src)).trans (if_neg (by decide)).symm) ((congrArg (· + 2) (own_s6 src)).trans (if_neg (by decide)).symm) (own_s7 src) ((congrArg (· + 1) (own_s7 src)).trans (if_neg (by decide)).symm) ((congrArg (· + 2) (own_s7 src)).trans (if_neg (by decide)).symm)) (by decide) (by decide) (Nat.le_of_eq rfl) (by decide) (by decide) (rest := []) e244 rfl (hb hby at_242) ?_
    intro v261 T261 L261 X261 hQ261
    obtain ⟨rfl, N261q, e261⟩ := hQ261
    have N261 := Fr.app N238 N261q
    show own_Go p e below _ T261 (mkF m 245 #[.val (.int p1), .val (.int p2), .val (.int p3), .val (.int p4), .val (.int p5), .val (.int p6), .val (.int (0 : Int32)), .val (.int src), .val (.int old), .val (.ref b1), .val (.ref b13)] [(.int (1 : Int32))])
    refine own_retZ X261 hx hlk Bd.returns (by decide) (hb hby at_245) e261 (by decide) (by decide) ?_
    exact ⟨rfl, N261⟩
  · show own_Go p e below _ T202 (mkF m 116 #[.val (.int p1), .val (.int p2), .val (.int p3), .val (.int p4), .val (.int p5), .val (.int p6), .val (.int (1 : Int32)), .val (.int src), .val (.int old), .val (.ref b1), .val (.ref b13)] [])
    refine own_by (fun t_ k_ => XS.aload X202.here hx rfl (hb hby at_116) rfl rfl k_) ?_
    show own_Go p e below _ T202 (mkF m 118 #[.val (.int p1), .val (.int p2), .val (.int p3), .val (.int p4), .val (.int p5), .val (.int p6), .val (.int (1 : Int32)), .val (.int src), .val (.int old), .val (.ref b1), .val (.ref b13)] [(.ref b13)])
    refine own_by (fun t_ k_ => XS.aload X202.here hx rfl (hb hby at_118) rfl rfl k_) ?_
    show own_Go p e below _ T202 (mkF m 120 #[.val (.int p1), .val (.int p2), .val (.int p3), .val (.int p4), .val (.int p5), .val (.int p6), .val (.int (1 : Int32)), .val (.int src), .val (.int old), .val (.ref b1), .val (.ref b13)] [(.ref b1), (.ref b13)])
    have E24_262 : Exa Z T202.heap b13 "com/example/wayfold/wayfold/engine/DayTiming$Timeline" := (Exa.keep (Exa.wr W89 (Exa.wr W74 (Exa.wr W69 E24_71))) K202)
    have F69_263 : Fld Z T202.heap b13 "com/example/wayfold/wayfold/engine/DayTiming$Timeline" "length" "I" (.int ((p6 &&& (2147483647 : Int32)) % (3 : Int32))) := (Fld.keep (Fld.other W89 (Fld.other W74 F69 (Or.inl n85)) (Or.inl n85)) K202 (ninS n108 (ninS n121 (ninS n134 (ninS n147 (ninS n160 (ninS n173 (ninS n186 (ninS n199 nin0)))))))))
    have F25_264 : Fld Z T202.heap b1 "com/example/wayfold/wayfold/engine/DayTiming$Timeline" "length" "I" (.int (1 : Int32)) := (Fld.keep (Fld.other W89 (Fld.other W74 (Fld.other W69 (Fld.keep (Fld.other W35 (Fld.other W30 F25 (Or.inl n31)) (Or.inl n31)) K68 (ninS n44 (ninS n47 (ninS n50 (ninS n53 (ninS n56 (ninS n59 (ninS n62 (ninS n65 nin0))))))))) (Or.inl (Nat.ne_of_lt lt_b1_b13))) (Or.inl n75)) (Or.inl n75)) K202 (ninS n98 (ninS n111 (ninS n124 (ninS n137 (ninS n150 (ninS n163 (ninS n176 (ninS n189 nin0)))))))))
    have F24_265 : Fld Z T202.heap b13 "com/example/wayfold/wayfold/engine/DayTiming$Timeline" "nodes" "[I" (.ref b24_0) := (Fld.keep (Fld.other W89 F24_88 (Or.inl n85)) K202 (ninS n108 (ninS n121 (ninS n134 (ninS n147 (ninS n160 (ninS n173 (ninS n186 (ninS n199 nin0)))))))))
    have F24_266 : Fld Z T202.heap b13 "com/example/wayfold/wayfold/engine/DayTiming$Timeline" "leave" "[D" (.ref b24_1) := (Fld.keep F24_90 K202 (ninS n108 (ninS n121 (ninS n134 (ninS n147 (ninS n160 (ninS n173 (ninS n186 (ninS n199 nin0)))))))))
    have F24_267 : Fld Z T202.heap b13 "com/example/wayfold/wayfold/engine/DayTiming$Timeline" "interest" "[D" (.ref b24_2) := (Fld.keep F24_91 K202 (ninS n108 (ninS n121 (ninS n134 (ninS n147 (ninS n160 (ninS n173 (ninS n186 (ninS n199 nin0)))))))))
    have F24_268 : Fld Z T202.heap b13 "com/example/wayfold/wayfold/engine/DayTiming$Timeline" "travel" "[D" (.ref b24_3) := (Fld.keep F24_92 K202 (ninS n108 (ninS n121 (ninS n134 (ninS n147 (ninS n160 (ninS n173 (ninS n186 (ninS n199 nin0)))))))))
    have F24_269 : Fld Z T202.heap b13 "com/example/wayfold/wayfold/engine/DayTiming$Timeline" "visit" "[D" (.ref b24_4) := (Fld.keep F24_93 K202 (ninS n108 (ninS n121 (ninS n134 (ninS n147 (ninS n160 (ninS n173 (ninS n186 (ninS n199 nin0)))))))))
    have F24_270 : Fld Z T202.heap b13 "com/example/wayfold/wayfold/engine/DayTiming$Timeline" "waiting" "[D" (.ref b24_5) := (Fld.keep F24_94 K202 (ninS n108 (ninS n121 (ninS n134 (ninS n147 (ninS n160 (ninS n173 (ninS n186 (ninS n199 nin0)))))))))
    have F24_271 : Fld Z T202.heap b13 "com/example/wayfold/wayfold/engine/DayTiming$Timeline" "load" "[D" (.ref b24_6) := (Fld.keep F24_95 K202 (ninS n108 (ninS n121 (ninS n134 (ninS n147 (ninS n160 (ninS n173 (ninS n186 (ninS n199 nin0)))))))))
    have F24_272 : Fld Z T202.heap b13 "com/example/wayfold/wayfold/engine/DayTiming$Timeline" "latest" "[D" (.ref b24_7) := (Fld.keep F24_96 K202 (ninS n108 (ninS n121 (ninS n134 (ninS n147 (ninS n160 (ninS n173 (ninS n186 (ninS n199 nin0)))))))))
    have F24_273 : Fld Z T202.heap b13 "com/example/wayfold/wayfold/engine/DayTiming$Timeline" "best" "[D" (.ref b24_8) := (Fld.keep F24_97 K202 (ninS n108 (ninS n121 (ninS n134 (ninS n147 (ninS n160 (ninS n173 (ninS n186 (ninS n199 nin0)))))))))
    have F12_274 : Fld Z T202.heap b1 "com/example/wayfold/wayfold/engine/DayTiming$Timeline" "nodes" "[I" (.ref b12_0) := (Fld.keep (Fld.other W89 (Fld.other W74 (Fld.other W69 (Fld.keep (Fld.other W35 F12_34 (Or.inl n31)) K68 (ninS n44 (ninS n47 (ninS n50 (ninS n53 (ninS n56 (ninS n59 (ninS n62 (ninS n65 nin0))))))))) (Or.inl (Nat.ne_of_lt lt_b1_b13))) (Or.inl n75)) (Or.inl n75)) K202 (ninS n98 (ninS n111 (ninS n124 (ninS n137 (ninS n150 (ninS n163 (ninS n176 (ninS n189 nin0)))))))))
    have F12_275 : Fld Z T202.heap b1 "com/example/wayfold/wayfold/engine/DayTiming$Timeline" "leave" "[D" (.ref b12_1) := (Fld.keep (Fld.other W89 (Fld.other W74 (Fld.other W69 (Fld.keep F12_36 K68 (ninS n44 (ninS n47 (ninS n50 (ninS n53 (ninS n56 (ninS n59 (ninS n62 (ninS n65 nin0))))))))) (Or.inl (Nat.ne_of_lt lt_b1_b13))) (Or.inl n75)) (Or.inl n75)) K202 (ninS n98 (ninS n111 (ninS n124 (ninS n137 (ninS n150 (ninS n163 (ninS n176 (ninS n189 nin0)))))))))
    have F12_276 : Fld Z T202.heap b1 "com/example/wayfold/wayfold/engine/DayTiming$Timeline" "interest" "[D" (.ref b12_2) := (Fld.keep (Fld.other W89 (Fld.other W74 (Fld.other W69 (Fld.keep F12_37 K68 (ninS n44 (ninS n47 (ninS n50 (ninS n53 (ninS n56 (ninS n59 (ninS n62 (ninS n65 nin0))))))))) (Or.inl (Nat.ne_of_lt lt_b1_b13))) (Or.inl n75)) (Or.inl n75)) K202 (ninS n98 (ninS n111 (ninS n124 (ninS n137 (ninS n150 (ninS n163 (ninS n176 (ninS n189 nin0)))))))))
    have F12_277 : Fld Z T202.heap b1 "com/example/wayfold/wayfold/engine/DayTiming$Timeline" "travel" "[D" (.ref b12_3) := (Fld.keep (Fld.other W89 (Fld.other W74 (Fld.other W69 (Fld.keep F12_38 K68 (ninS n44 (ninS n47 (ninS n50 (ninS n53 (ninS n56 (ninS n59 (ninS n62 (ninS n65 nin0))))))))) (Or.inl (Nat.ne_of_lt lt_b1_b13))) (Or.inl n75)) (Or.inl n75)) K202 (ninS n98 (ninS n111 (ninS n124 (ninS n137 (ninS n150 (ninS n163 (ninS n176 (ninS n189 nin0)))))))))
    have F12_278 : Fld Z T202.heap b1 "com/example/wayfold/wayfold/engine/DayTiming$Timeline" "visit" "[D" (.ref b12_4) := (Fld.keep (Fld.other W89 (Fld.other W74 (Fld.other W69 (Fld.keep F12_39 K68 (ninS n44 (ninS n47 (ninS n50 (ninS n53 (ninS n56 (ninS n59 (ninS n62 (ninS n65 nin0))))))))) (Or.inl (Nat.ne_of_lt lt_b1_b13))) (Or.inl n75)) (Or.inl n75)) K202 (ninS n98 (ninS n111 (ninS n124 (ninS n137 (ninS n150 (ninS n163 (ninS n176 (ninS n189 nin0)))))))))
    have F12_279 : Fld Z T202.heap b1 "com/example/wayfold/wayfold/engine/DayTiming$Timeline" "waiting" "[D" (.ref b12_5) := (Fld.keep (Fld.other W89 (Fld.other W74 (Fld.other W69 (Fld.keep F12_40 K68 (ninS n44 (ninS n47 (ninS n50 (ninS n53 (ninS n56 (ninS n59 (ninS n62 (ninS n65 nin0))))))))) (Or.inl (Nat.ne_of_lt lt_b1_b13))) (Or.inl n75)) (Or.inl n75)) K202 (ninS n98 (ninS n111 (ninS n124 (ninS n137 (ninS n150 (ninS n163 (ninS n176 (ninS n189 nin0)))))))))
    have F12_280 : Fld Z T202.heap b1 "com/example/wayfold/wayfold/engine/DayTiming$Timeline" "load" "[D" (.ref b12_6) := (Fld.keep (Fld.other W89 (Fld.other W74 (Fld.other W69 (Fld.keep F12_41 K68 (ninS n44 (ninS n47 (ninS n50 (ninS n53 (ninS n56 (ninS n59 (ninS n62 (ninS n65 nin0))))))))) (Or.inl (Nat.ne_of_lt lt_b1_b13))) (Or.inl n75)) (Or.inl n75)) K202 (ninS n98 (ninS n111 (ninS n124 (ninS n137 (ninS n150 (ninS n163 (ninS n176 (ninS n189 nin0)))))))))
    have F12_281 : Fld Z T202.heap b1 "com/example/wayfold/wayfold/engine/DayTiming$Timeline" "latest" "[D" (.ref b12_7) := (Fld.keep (Fld.other W89 (Fld.other W74 (Fld.other W69 (Fld.keep F12_42 K68 (ninS n44 (ninS n47 (ninS n50 (ninS n53 (ninS n56 (ninS n59 (ninS n62 (ninS n65 nin0))))))))) (Or.inl (Nat.ne_of_lt lt_b1_b13))) (Or.inl n75)) (Or.inl n75)) K202 (ninS n98 (ninS n111 (ninS n124 (ninS n137 (ninS n150 (ninS n163 (ninS n176 (ninS n189 nin0)))))))))
    have F12_282 : Fld Z T202.heap b1 "com/example/wayfold/wayfold/engine/DayTiming$Timeline" "best" "[D" (.ref b12_8) := (Fld.keep (Fld.other W89 (Fld.other W74 (Fld.other W69 (Fld.keep F12_43 K68 (ninS n44 (ninS n47 (ninS n50 (ninS n53 (ninS n56 (ninS n59 (ninS n62 (ninS n65 nin0))))))))) (Or.inl (Nat.ne_of_lt lt_b1_b13))) (Or.inl n75)) (Or.inl n75)) K202 (ninS n98 (ninS n111 (ninS n124 (ninS n137 (ninS n150 (ninS n163 (ninS n176 (ninS n189 nin0)))))))))
    have V89_283 : own_Arr Z T202.heap b24_0 .int [(.int (p2 ^^^ (-1 : Int32))), (.int (p3 ^^^ (-1 : Int32)))] := (own_Arr.keep V89_0 K202 (ninS n109 (ninS n122 (ninS n135 (ninS n148 (ninS n161 (ninS n174 (ninS n187 (ninS n200 nin0)))))))))
    have V35_284 : own_Arr Z T202.heap b12_0 .int [(.int p2), (.int p3)] := (own_Arr.keep (own_Arr.other (own_Arr.other (own_Arr.other (own_Arr.keep V35_0 K68 (ninS n45 (ninS n48 (ninS n51 (ninS n54 (ninS n57 (ninS n60 (ninS n63 (ninS n66 nin0))))))))) W69 (Nat.ne_of_lt lt_b12_0_b13)) W74 n76) W89 n76) K202 (ninS n99 (ninS n112 (ninS n125 (ninS n138 (ninS n151 (ninS n164 (ninS n177 (ninS n190 nin0)))))))))
    have V68_285 : own_Arr Z T202.heap b12_1 .double [(.double (FP.i2d src)), (.double (FP.i2d (src + 1))), (.double (FP.i2d (src + 2)))] := (own_Arr.keep (own_Arr.other (own_Arr.other (own_Arr.other V68_0 W69 (Nat.ne_of_lt lt_b12_1_b13)) W74 n84) W89 n84) K202 (ninS n107 (ninS n120 (ninS n133 (ninS n146 (ninS n159 (ninS n172 (ninS n185 (ninS n198 nin0)))))))))
    have V68_286 : own_Arr Z T202.heap b12_2 .double [(.double (FP.i2d (src + (3 : Int32)))), (.double (FP.i2d ((src + (3 : Int32)) + 1))), (.double (FP.i2d ((src + (3 : Int32)) + 2)))] := (own_Arr.keep (own_Arr.other (own_Arr.other (own_Arr.other V68_1 W69 (Nat.ne_of_lt lt_b12_2_b13)) W74 n83) W89 n83) K202 (ninS n106 (ninS n119 (ninS n132 (ninS n145 (ninS n158 (ninS n171 (ninS n184 (ninS n197 nin0)))))))))
    have V68_287 : own_Arr Z T202.heap b12_3 .double [(.double (FP.i2d (src + ((2 : Int32) * (3 : Int32))))), (.double (FP.i2d ((src + ((2 : Int32) * (3 : Int32))) + 1))), (.double (FP.i2d ((src + ((2 : Int32) * (3 : Int32))) + 2)))] := (own_Arr.keep (own_Arr.other (own_Arr.other (own_Arr.other V68_2 W69 (Nat.ne_of_lt lt_b12_3_b13)) W74 n82) W89 n82) K202 (ninS n105 (ninS n118 (ninS n131 (ninS n144 (ninS n157 (ninS n170 (ninS n183 (ninS n196 nin0)))))))))
    have V68_288 : own_Arr Z T202.heap b12_4 .double [(.double (FP.i2d (src + ((3 : Int32) * (3 : Int32))))), (.double (FP.i2d ((src + ((3 : Int32) * (3 : Int32))) + 1))), (.double (FP.i2d ((src + ((3 : Int32) * (3 : Int32))) + 2)))] := (own_Arr.keep (own_Arr.other (own_Arr.other (own_Arr.other V68_3 W69 (Nat.ne_of_lt lt_b12_4_b13)) W74 n81) W89 n81) K202 (ninS n104 (ninS n117 (ninS n130 (ninS n143 (ninS n156 (ninS n169 (ninS n182 (ninS n195 nin0)))))))))
    have V68_289 : own_Arr Z T202.heap b12_5 .double [(.double (FP.i2d (src + ((4 : Int32) * (3 : Int32))))), (.double (FP.i2d ((src + ((4 : Int32) * (3 : Int32))) + 1))), (.double (FP.i2d ((src + ((4 : Int32) * (3 : Int32))) + 2)))] := (own_Arr.keep (own_Arr.other (own_Arr.other (own_Arr.other V68_4 W69 (Nat.ne_of_lt lt_b12_5_b13)) W74 n80) W89 n80) K202 (ninS n103 (ninS n116 (ninS n129 (ninS n142 (ninS n155 (ninS n168 (ninS n181 (ninS n194 nin0)))))))))
    have V68_290 : own_Arr Z T202.heap b12_6 .double [(.double (FP.i2d (src + ((5 : Int32) * (3 : Int32))))), (.double (FP.i2d ((src + ((5 : Int32) * (3 : Int32))) + 1))), (.double (FP.i2d ((src + ((5 : Int32) * (3 : Int32))) + 2)))] := (own_Arr.keep (own_Arr.other (own_Arr.other (own_Arr.other V68_5 W69 (Nat.ne_of_lt lt_b12_6_b13)) W74 n79) W89 n79) K202 (ninS n102 (ninS n115 (ninS n128 (ninS n141 (ninS n154 (ninS n167 (ninS n180 (ninS n193 nin0)))))))))
    have V68_291 : own_Arr Z T202.heap b12_7 .double [(.double (FP.i2d (src + ((6 : Int32) * (3 : Int32))))), (.double (FP.i2d ((src + ((6 : Int32) * (3 : Int32))) + 1))), (.double (FP.i2d ((src + ((6 : Int32) * (3 : Int32))) + 2)))] := (own_Arr.keep (own_Arr.other (own_Arr.other (own_Arr.other V68_6 W69 (Nat.ne_of_lt lt_b12_7_b13)) W74 n78) W89 n78) K202 (ninS n101 (ninS n114 (ninS n127 (ninS n140 (ninS n153 (ninS n166 (ninS n179 (ninS n192 nin0)))))))))
    have V68_292 : own_Arr Z T202.heap b12_8 .double [(.double (FP.i2d (src + ((7 : Int32) * (3 : Int32))))), (.double (FP.i2d ((src + ((7 : Int32) * (3 : Int32))) + 1))), (.double (FP.i2d ((src + ((7 : Int32) * (3 : Int32))) + 2)))] := (own_Arr.keep (own_Arr.other (own_Arr.other (own_Arr.other V68_7 W69 (Nat.ne_of_lt lt_b12_8_b13)) W74 n77) W89 n77) K202 (ninS n100 (ninS n113 (ninS n126 (ninS n139 (ninS n152 (ninS n165 (ninS n178 (ninS n191 nin0)))))))))
    refine own_callV (W := 0) X202 hx hZ (y := (⟨"com/example/wayfold/wayfold/engine/DayTiming$Timeline", "copy", "(Lcom/example/wayfold/wayfold/engine/DayTiming$Timeline;)V"⟩ : MethodName)) (z := (⟨"com/example/wayfold/wayfold/engine/DayTiming$Timeline", "copy", "(Lcom/example/wayfold/wayfold/engine/DayTiming$Timeline;)V"⟩ : MethodName)) hown (own_w hw 49 rfl) (own_w hw 50 rfl) (notFace_of_selects (args := #[]) (mvT hZ (own_w hw 52 rfl))) (own_w hw 52 rfl) (own_w hw 51 rfl) (own_w hw 4 rfl) (own_w hw 53 rfl) (by decide) (by rw [hml]; rfl) (argsL := [(.ref b1)]) pd_4 rfl (a := b13) rfl E24_262 (rm5 l Z a0 hw [] b13 b1 b24_0 b24_1 b24_2 b24_3 b24_4 b24_5 b24_6 b24_7 b24_8 b12_0 b12_1 b12_2 b12_3 b12_4 b12_5 b12_6 b12_7 b12_8 _ _ 1 (.int (p2 ^^^ (-1 : Int32))) (.int (p3 ^^^ (-1 : Int32))) (.double (FP.i2d old)) (.double (FP.i2d (old + 1))) (.double (FP.i2d (old + 2))) (.double (FP.i2d (old + (-3 : Int32)))) (.double (FP.i2d ((old + (-3 : Int32)) + 1))) (.double (FP.i2d ((old + (-3 : Int32)) + 2))) (.double (FP.i2d (old + ((2 : Int32) * (-3 : Int32))))) (.double (FP.i2d ((old + ((2 : Int32) * (-3 : Int32))) + 1))) (.double (FP.i2d ((old + ((2 : Int32) * (-3 : Int32))) + 2))) (.double (FP.i2d (old + ((3 : Int32) * (-3 : Int32))))) (.double (FP.i2d ((old + ((3 : Int32) * (-3 : Int32))) + 1))) (.double (FP.i2d ((old + ((3 : Int32) * (-3 : Int32))) + 2))) (.double (FP.i2d (old + ((4 : Int32) * (-3 : Int32))))) (.double (FP.i2d ((old + ((4 : Int32) * (-3 : Int32))) + 1))) (.double (FP.i2d ((old + ((4 : Int32) * (-3 : Int32))) + 2))) (.double (FP.i2d (old + ((5 : Int32) * (-3 : Int32))))) (.double (FP.i2d ((old + ((5 : Int32) * (-3 : Int32))) + 1))) (.double (FP.i2d ((old + ((5 : Int32) * (-3 : Int32))) + 2))) (.double (FP.i2d (old + ((6 : Int32) * (-3 : Int32))))) (.double (FP.i2d ((old + ((6 : Int32) * (-3 : Int32))) + 1))) (.double (FP.i2d ((old + ((6 : Int32) * (-3 : Int32))) + 2))) (.double (FP.i2d (old + ((7 : Int32) * (-3 : Int32))))) (.double (FP.i2d ((old + ((7 : Int32) * (-3 : Int32))) + 1))) (.double (FP.i2d ((old + ((7 : Int32) * (-3 : Int32))) + 2))) (.int p2) (.int p3) (.double (FP.i2d src)) (.double (FP.i2d (src + 1))) (.double (FP.i2d (src + 2))) (.double (FP.i2d (src + (3 : Int32)))) (.double (FP.i2d ((src + (3 : Int32)) + 1))) (.double (FP.i2d ((src + (3 : Int32)) + 2))) (.double (FP.i2d (src + ((2 : Int32) * (3 : Int32))))) (.double (FP.i2d ((src + ((2 : Int32) * (3 : Int32))) + 1))) (.double (FP.i2d ((src + ((2 : Int32) * (3 : Int32))) + 2))) (.double (FP.i2d (src + ((3 : Int32) * (3 : Int32))))) (.double (FP.i2d ((src + ((3 : Int32) * (3 : Int32))) + 1))) (.double (FP.i2d ((src + ((3 : Int32) * (3 : Int32))) + 2))) (.double (FP.i2d (src + ((4 : Int32) * (3 : Int32))))) (.double (FP.i2d ((src + ((4 : Int32) * (3 : Int32))) + 1))) (.double (FP.i2d ((src + ((4 : Int32) * (3 : Int32))) + 2))) (.double (FP.i2d (src + ((5 : Int32) * (3 : Int32))))) (.double (FP.i2d ((src + ((5 : Int32) * (3 : Int32))) + 1))) (.double (FP.i2d ((src + ((5 : Int32) * (3 : Int32))) + 2))) (.double (FP.i2d (src + ((6 : Int32) * (3 : Int32))))) (.double (FP.i2d ((src + ((6 : Int32) * (3 : Int32))) + 1))) (.double (FP.i2d ((src + ((6 : Int32) * (3 : Int32))) + 2))) (.double (FP.i2d (src + ((7 : Int32) * (3 : Int32))))) (.double (FP.i2d ((src + ((7 : Int32) * (3 : Int32))) + 1))) (.double (FP.i2d ((src + ((7 : Int32) * (3 : Int32))) + 2))) T202.heap n0 sz202 E24_262 F69_263 F25_264 F24_265 F24_266 F24_267 F24_268 F24_269 F24_270 F24_271 F24_272 F24_273 F12_274 F12_275 F12_276 F12_277 F12_278 F12_279 F12_280 F12_281 F12_282 V89_283 V202_0 V202_1 V202_2 V202_3 V202_4 V202_5 V202_6 V202_7 V35_284 V68_285 V68_286 V68_287 V68_288 V68_289 V68_290 V68_291 V68_292 lx12 q12_0 q12_1 q12_2 q12_3 q12_4 q12_5 q12_6 q12_7 lt_b12_8_b13 lx24 q24_0 q24_1 q24_2 q24_3 q24_4 q24_5 q24_6 q24_7 g_b13 g_b24_0 g_b24_1 g_b24_2 g_b24_3 g_b24_4 g_b24_5 g_b24_6 g_b24_7 g_b24_8 (Or.inr (Or.inl ⟨rfl, rfl⟩))) (by decide) (by decide) (Nat.le_of_eq rfl) (by decide) (by decide) (rest := []) rfl (hb hby at_120) ?_
    intro v293 T293 L293 X293 hQ293
    obtain ⟨rfl, N293q, K293, E293, Fl293, ⟨F293_0, F293_1, F293_2, F293_3, F293_4, F293_5, F293_6, F293_7, F293_8⟩, V293_0, V293_1, V293_2, V293_3, V293_4, V293_5, V293_6, V293_7, V293_8⟩ := hQ293
    have N293 := Fr.app N202 N293q
    have sz293 : n0 ≤ T293.heap.size := Nat.le_trans sz202 K293.1
    show own_Go p e below _ T293 (mkF m 123 #[.val (.int p1), .val (.int p2), .val (.int p3), .val (.int p4), .val (.int p5), .val (.int p6), .val (.int (1 : Int32)), .val (.int src), .val (.int old), .val (.ref b1), .val (.ref b13)] [])
    refine own_by (fun t_ k_ => XS.aload X293.here hx rfl (hb hby at_123) rfl rfl k_) ?_
    show own_Go p e below _ T293 (mkF m 125 #[.val (.int p1), .val (.int p2), .val (.int p3), .val (.int p4), .val (.int p5), .val (.int p6), .val (.int (1 : Int32)), .val (.int src), .val (.int old), .val (.ref b1), .val (.ref b13)] [(.ref b13)])
    refine own_getF X293 hx hZ hown (own_w hw 31 rfl) Via.refl rfl Fl293 (hb hby at_125) ?_
    intro T294 X294 e294
    show own_Go p e below _ T294 (mkF m 128 #[.val (.int p1), .val (.int p2), .val (.int p3), .val (.int p4), .val (.int p5), .val (.int p6), .val (.int (1 : Int32)), .val (.int src), .val (.int old), .val (.ref b1), .val (.ref b13)] [(.int (1 : Int32))])
    refine own_by (fun t_ k_ => XS.iload X294.here hx rfl (hb hby at_128) rfl k_) ?_
    show own_Go p e below _ T294 (mkF m 130 #[.val (.int p1), .val (.int p2), .val (.int p3), .val (.int p4), .val (.int p5), .val (.int p6), .val (.int (1 : Int32)), .val (.int src), .val (.int old), .val (.ref b1), .val (.ref b13)] [(.int (1 : Int32)), (.int (1 : Int32))])
    refine own_icmp X294 hx 135 (hb hby at_130) (by decide) (by decide) (fun _ => ?_) (fun hc => absurd (show (1 : Int32) = (1 : Int32) from by decide) (by first | exact hc | exact not_not_intro hc))
    show own_Go p e below _ T294 (mkF m 135 #[.val (.int p1), .val (.int p2), .val (.int p3), .val (.int p4), .val (.int p5), .val (.int p6), .val (.int (1 : Int32)), .val (.int src), .val (.int old), .val (.ref b1), .val (.ref b13)] [])
    refine own_by (fun t_ k_ => XS.aload X294.here hx rfl (hb hby at_135) rfl rfl k_) ?_
    show own_Go p e below _ T294 (mkF m 137 #[.val (.int p1), .val (.int p2), .val (.int p3), .val (.int p4), .val (.int p5), .val (.int p6), .val (.int (1 : Int32)), .val (.int src), .val (.int old), .val (.ref b1), .val (.ref b13)] [(.ref b13)])
    refine own_getF X294 hx hZ hown (own_w hw 33 rfl) Via.refl e294 F293_0 (hb hby at_137) ?_
    intro T295 X295 e295
    show own_Go p e below _ T295 (mkF m 140 #[.val (.int p1), .val (.int p2), .val (.int p3), .val (.int p4), .val (.int p5), .val (.int p6), .val (.int (1 : Int32)), .val (.int src), .val (.int old), .val (.ref b1), .val (.ref b13)] [(.ref b24_0)])
    refine own_by (fun t_ k_ => XS.iconst X295.here hx rfl (hb hby at_140) k_) ?_
    show own_Go p e below _ T295 (mkF m 141 #[.val (.int p1), .val (.int p2), .val (.int p3), .val (.int p4), .val (.int p5), .val (.int p6), .val (.int (1 : Int32)), .val (.int src), .val (.int old), .val (.ref b1), .val (.ref b13)] [(.int (0 : Int32)), (.ref b24_0)])
    refine own_iaload X295 hx hZ e295 V293_0 (v := (.int p2)) 0 (by decide) rfl (hb hby at_141) ?_
    show own_Go p e below _ T295 (mkF m 142 #[.val (.int p1), .val (.int p2), .val (.int p3), .val (.int p4), .val (.int p5), .val (.int p6), .val (.int (1 : Int32)), .val (.int src), .val (.int old), .val (.ref b1), .val (.ref b13)] [(.int p2)])
    refine own_by (fun t_ k_ => XS.iload X295.here hx rfl (hb hby at_142) rfl k_) ?_
    show own_Go p e below _ T295 (mkF m 144 #[.val (.int p1), .val (.int p2), .val (.int p3), .val (.int p4), .val (.int p5), .val (.int p6), .val (.int (1 : Int32)), .val (.int src), .val (.int old), .val (.ref b1), .val (.ref b13)] [(.int (1 : Int32)), (.int p2)])
    refine own_by (fun t_ k_ => XS.iconst X295.here hx rfl (hb hby at_144) k_) ?_
    show own_Go p e below _ T295 (mkF m 145 #[.val (.int p1), .val (.int p2), .val (.int p3), .val (.int p4), .val (.int p5), .val (.int p6), .val (.int (1 : Int32)), .val (.int src), .val (.int old), .val (.ref b1), .val (.ref b13)] [(.int (1 : Int32)), (.int (1 : Int32)), (.int p2)])
    refine own_icmp X295 hx 152 (hb hby at_145) (by decide) (by decide) (fun hc => absurd (show ¬ (1 : Int32) < (1 : Int32) from by decide) (by first | exact hc | exact not_not_intro hc)) (fun _ => ?_)
    show own_Go p e below _ T295 (mkF m 148 #[.val (.int p1), .val (.int p2), .val (.int p3), .val (.int p4), .val (.int p5), .val (.int p6), .val (.int (1 : Int32)), .val (.int src), .val (.int old), .val (.ref b1), .val (.ref b13)] [(.int p2)])
    refine own_by (fun t_ k_ => XS.iloadN X295.here hx rfl (hb hby at_148) rfl k_) ?_
    show own_Go p e below _ T295 (mkF m 149 #[.val (.int p1), .val (.int p2), .val (.int p3), .val (.int p4), .val (.int p5), .val (.int p6), .val (.int (1 : Int32)), .val (.int src), .val (.int old), .val (.ref b1), .val (.ref b13)] [(.int p2), (.int p2)])
    refine own_by (fun t_ k_ => XS.goto X295.here hx rfl (pc0 := 149) (pc' := 155) rfl (hb hby at_149) (by decide) (by decide) k_) ?_
    show own_Go p e below _ T295 (mkF m 155 #[.val (.int p1), .val (.int p2), .val (.int p3), .val (.int p4), .val (.int p5), .val (.int p6), .val (.int (1 : Int32)), .val (.int src), .val (.int old), .val (.ref b1), .val (.ref b13)] [(.int p2), (.int p2)])
    refine own_icmp X295 hx 160 (hb hby at_155) (by decide) (by decide) (fun _ => ?_) (fun hc => absurd (show p2 = p2 from rfl) (by first | exact hc | exact not_not_intro hc))
    show own_Go p e below _ T295 (mkF m 160 #[.val (.int p1), .val (.int p2), .val (.int p3), .val (.int p4), .val (.int p5), .val (.int p6), .val (.int (1 : Int32)), .val (.int src), .val (.int old), .val (.ref b1), .val (.ref b13)] [])
    refine own_by (fun t_ k_ => XS.aload X295.here hx rfl (hb hby at_160) rfl rfl k_) ?_
    show own_Go p e below _ T295 (mkF m 162 #[.val (.int p1), .val (.int p2), .val (.int p3), .val (.int p4), .val (.int p5), .val (.int p6), .val (.int (1 : Int32)), .val (.int src), .val (.int old), .val (.ref b1), .val (.ref b13)] [(.ref b13)])
    refine own_getF X295 hx hZ hown (own_w hw 33 rfl) Via.refl e295 F293_0 (hb hby at_162) ?_
    intro T296 X296 e296
    show own_Go p e below _ T296 (mkF m 165 #[.val (.int p1), .val (.int p2), .val (.int p3), .val (.int p4), .val (.int p5), .val (.int p6), .val (.int (1 : Int32)), .val (.int src), .val (.int old), .val (.ref b1), .val (.ref b13)] [(.ref b24_0)])
    refine own_by (fun t_ k_ => XS.iconst X296.here hx rfl (hb hby at_165) k_) ?_
    show own_Go p e below _ T296 (mkF m 166 #[.val (.int p1), .val (.int p2), .val (.int p3), .val (.int p4), .val (.int p5), .val (.int p6), .val (.int (1 : Int32)), .val (.int src), .val (.int old), .val (.ref b1), .val (.ref b13)] [(.int (1 : Int32)), (.ref b24_0)])
    refine own_iaload X296 hx hZ e296 V293_0 (v := (.int (p3 ^^^ (-1 : Int32)))) 1 (by decide) rfl (hb hby at_166) ?_
    show own_Go p e below _ T296 (mkF m 167 #[.val (.int p1), .val (.int p2), .val (.int p3), .val (.int p4), .val (.int p5), .val (.int p6), .val (.int (1 : Int32)), .val (.int src), .val (.int old), .val (.ref b1), .val (.ref b13)] [(.int (p3 ^^^ (-1 : Int32)))])
    refine own_by (fun t_ k_ => XS.iload X296.here hx rfl (hb hby at_167) rfl k_) ?_
    show own_Go p e below _ T296 (mkF m 169 #[.val (.int p1), .val (.int p2), .val (.int p3), .val (.int p4), .val (.int p5), .val (.int p6), .val (.int (1 : Int32)), .val (.int src), .val (.int old), .val (.ref b1), .val (.ref b13)] [(.int (1 : Int32)), (.int (p3 ^^^ (-1 : Int32)))])
    refine own_by (fun t_ k_ => XS.iconst X296.here hx rfl (hb hby at_169) k_) ?_
    show own_Go p e below _ T296 (mkF m 170 #[.val (.int p1), .val (.int p2), .val (.int p3), .val (.int p4), .val (.int p5), .val (.int p6), .val (.int (1 : Int32)), .val (.int src), .val (.int old), .val (.ref b1), .val (.ref b13)] [(.int (2 : Int32)), (.int (1 : Int32)), (.int (p3 ^^^ (-1 : Int32)))])
    refine own_icmp X296 hx 177 (hb hby at_170) (by decide) (by decide) (fun _ => ?_) (fun hc => absurd (show (1 : Int32) < (2 : Int32) from by decide) (by first | exact hc | exact not_not_intro hc))
    show own_Go p e below _ T296 (mkF m 177 #[.val (.int p1), .val (.int p2), .val (.int p3), .val (.int p4), .val (.int p5), .val (.int p6), .val (.int (1 : Int32)), .val (.int src), .val (.int old), .val (.ref b1), .val (.ref b13)] [(.int (p3 ^^^ (-1 : Int32)))])
    refine own_by (fun t_ k_ => XS.iloadN X296.here hx rfl (hb hby at_177) rfl k_) ?_
    show own_Go p e below _ T296 (mkF m 178 #[.val (.int p1), .val (.int p2), .val (.int p3), .val (.int p4), .val (.int p5), .val (.int p6), .val (.int (1 : Int32)), .val (.int src), .val (.int old), .val (.ref b1), .val (.ref b13)] [(.int p3), (.int (p3 ^^^ (-1 : Int32)))])
    refine own_by (fun t_ k_ => XS.iconst X296.here hx rfl (hb hby at_178) k_) ?_
    show own_Go p e below _ T296 (mkF m 179 #[.val (.int p1), .val (.int p2), .val (.int p3), .val (.int p4), .val (.int p5), .val (.int p6), .val (.int (1 : Int32)), .val (.int src), .val (.int old), .val (.ref b1), .val (.ref b13)] [(.int (-1 : Int32)), (.int p3), (.int (p3 ^^^ (-1 : Int32)))])
    refine own_by (fun t_ k_ => XT.ixor X296.here hx rfl (hb hby at_179) rfl k_) ?_
    show own_Go p e below _ T296 (mkF m 180 #[.val (.int p1), .val (.int p2), .val (.int p3), .val (.int p4), .val (.int p5), .val (.int p6), .val (.int (1 : Int32)), .val (.int src), .val (.int old), .val (.ref b1), .val (.ref b13)] [(.int (p3 ^^^ (-1 : Int32))), (.int (p3 ^^^ (-1 : Int32)))])
    refine own_icmp X296 hx 185 (hb hby at_180) (by decide) (by decide) (fun _ => ?_) (fun hc => absurd (show (p3 ^^^ (-1 : Int32)) = (p3 ^^^ (-1 : Int32)) from rfl) (by first | exact hc | exact not_not_intro hc))
    show own_Go p e below _ T296 (mkF m 185 #[.val (.int p1), .val (.int p2), .val (.int p3), .val (.int p4), .val (.int p5), .val (.int p6), .val (.int (1 : Int32)), .val (.int src), .val (.int old), .val (.ref b1), .val (.ref b13)] [])
    refine own_by (fun t_ k_ => XS.aload X296.here hx rfl (hb hby at_185) rfl rfl k_) ?_
    show own_Go p e below _ T296 (mkF m 187 #[.val (.int p1), .val (.int p2), .val (.int p3), .val (.int p4), .val (.int p5), .val (.int p6), .val (.int (1 : Int32)), .val (.int src), .val (.int old), .val (.ref b1), .val (.ref b13)] [(.ref b13)])
    refine own_by (fun t_ k_ => XS.iload X296.here hx rfl (hb hby at_187) rfl k_) ?_
    show own_Go p e below _ T296 (mkF m 189 #[.val (.int p1), .val (.int p2), .val (.int p3), .val (.int p4), .val (.int p5), .val (.int p6), .val (.int (1 : Int32)), .val (.int src), .val (.int old), .val (.ref b1), .val (.ref b13)] [(.int src), (.ref b13)])
    refine own_by (fun t_ k_ => XS.iload X296.here hx rfl (hb hby at_189) rfl k_) ?_
    show own_Go p e below _ T296 (mkF m 191 #[.val (.int p1), .val (.int p2), .val (.int p3), .val (.int p4), .val (.int p5), .val (.int p6), .val (.int (1 : Int32)), .val (.int src), .val (.int old), .val (.ref b1), .val (.ref b13)] [(.int old), (.int src), (.ref b13)])
    refine own_by (fun t_ k_ => XS.iload X296.here hx rfl (hb hby at_191) rfl k_) ?_
    show own_Go p e below _ T296 (mkF m 193 #[.val (.int p1), .val (.int p2), .val (.int p3), .val (.int p4), .val (.int p5), .val (.int p6), .val (.int (1 : Int32)), .val (.int src), .val (.int old), .val (.ref b1), .val (.ref b13)] [(.int (1 : Int32)), (.int old), (.int src), (.ref b13)])
    refine own_callS (W := 0) X296 hx hZ (y := (⟨"com/example/wayfold/wayfold/engine/TimelineCopyPinLaw", "okAll", "(Lcom/example/wayfold/wayfold/engine/DayTiming$Timeline;III)Z"⟩ : MethodName)) hown (own_w hw 59 rfl) (own_w hw 60 rfl) (own_w hw 36 rfl) (own_w hw 61 rfl) (by decide) (by rw [hml]; rfl) (argsL := [(.ref b13), (.int src), (.int old), (.int (1 : Int32))]) pd_6 rfl (rm6 l Z a0 hw [] b13 src old (1 : Int32) b24_1 b24_2 b24_3 b24_4 b24_5 b24_6 b24_7 b24_8 src (src + 1) (old + 2) (src + (3 : Int32)) ((src + (3 : Int32)) + 1) ((old + (-3 : Int32)) + 2) (src + ((2 : Int32) * (3 : Int32))) ((src + ((2 : Int32) * (3 : Int32))) + 1) ((old + ((2 : Int32) * (-3 : Int32))) + 2) (src + ((3 : Int32) * (3 : Int32))) ((src + ((3 : Int32) * (3 : Int32))) + 1) ((old + ((3 : Int32) * (-3 : Int32))) + 2) (src + ((4 : Int32) * (3 : Int32))) ((src + ((4 : Int32) * (3 : Int32))) + 1) ((old + ((4 : Int32) * (-3 : Int32))) + 2) (src + ((5 : Int32) * (3 : Int32))) ((src + ((5 : Int32) * (3 : Int32))) + 1) ((old + ((5 : Int32) * (-3 : Int32))) + 2) (src + ((6 : Int32) * (3 : Int32))) ((src + ((6 : Int32) * (3 : Int32))) + 1) ((old + ((6 : Int32) * (-3 : Int32))) + 2) (src + ((7 : Int32) * (3 : Int32))) ((src + ((7 : Int32) * (3 : Int32))) + 1) ((old + ((7 : Int32) * (-3 : Int32))) + 2) T293.heap n0 sz293 F293_1 F293_2 F293_3 F293_4 F293_5 F293_6 F293_7 F293_8 V293_1 V293_2 V293_3 V293_4 V293_5 V293_6 V293_7 V293_8 (rfl : src = src) ((congrArg (· + 1) (rfl : src = src)).trans (if_neg (by decide)).symm) ((congrArg (· + 2) (rfl : old = old)).trans (if_pos (by decide)).symm) (own_s1 src) ((congrArg (· + 1) (own_s1 src)).trans (if_neg (by decide)).symm) ((congrArg (· + 2) (own_o1 old)).trans (if_pos (by decide)).symm) (own_s2 src) ((congrArg (· + 1) (own_s2 src)).trans (if_neg (by decide)).symm) ((congrArg (· + 2) (own_o2 old)).trans (if_pos (by decide)).symm) (own_s3 src) ((congrArg (· + 1) (own_s3 src)).trans (if_neg (by decide)).symm) ((congrArg (· + 2) (own_o3 old)).trans (if_pos (by decide)).symm) (own_s4 src) ((congrArg (· + 1) (own_s4 src)).trans (if_neg (by decide)).symm) ((congrArg (· + 2) (own_o4 old)).trans (if_pos (by decide)).symm) (own_s5 src) ((congrArg (· + 1) (own_s5 src)).trans (if_neg (by decide)).symm) ((congrArg (· + 2) (own_o5 old)).trans (if_pos (by decide)).symm) (own_s6 src) ((congrArg (· + 1) (own_s6 src)).trans (if_neg (by decide)).symm) ((congrArg (· + 2) (own_o6 old)).trans (if_pos (by decide)).symm) (own_s7 src) ((congrArg (· + 1) (own_s7 src)).trans (if_neg (by decide)).symm) ((congrArg (· + 2) (own_o7 old)).trans (if_pos (by decide)).symm)) (by decide) (by decide) (Nat.le_of_eq rfl) (by decide) (by decide) (rest := []) e296 rfl (hb hby at_193) ?_
    intro v297 T297 L297 X297 hQ297
    obtain ⟨rfl, N297q, e297⟩ := hQ297
    have N297 := Fr.app N293 N297q
    show own_Go p e below _ T297 (mkF m 196 #[.val (.int p1), .val (.int p2), .val (.int p3), .val (.int p4), .val (.int p5), .val (.int p6), .val (.int (1 : Int32)), .val (.int src), .val (.int old), .val (.ref b1), .val (.ref b13)] [(.int (1 : Int32))])
    refine own_if X297 hx 201 (hb hby at_196) (by decide) (by decide) (fun _ => ?_) (fun hc => absurd (show ¬ (1 : Int32) = (0 : Int32) from by decide) (by first | exact hc | exact not_not_intro hc))
    show own_Go p e below _ T297 (mkF m 201 #[.val (.int p1), .val (.int p2), .val (.int p3), .val (.int p4), .val (.int p5), .val (.int p6), .val (.int (1 : Int32)), .val (.int src), .val (.int old), .val (.ref b1), .val (.ref b13)] [])
    refine own_by (fun t_ k_ => XS.aload X297.here hx rfl (hb hby at_201) rfl rfl k_) ?_
    show own_Go p e below _ T297 (mkF m 203 #[.val (.int p1), .val (.int p2), .val (.int p3), .val (.int p4), .val (.int p5), .val (.int p6), .val (.int (1 : Int32)), .val (.int src), .val (.int old), .val (.ref b1), .val (.ref b13)] [(.ref b1)])
    have F25_299 : Fld Z T293.heap b1 "com/example/wayfold/wayfold/engine/DayTiming$Timeline" "length" "I" (.int (1 : Int32)) := (Fld.keep F25_264 K293 (ninS (Nat.ne_of_lt lt_b1_b13) (ninS n75 (ninS n98 (ninS n111 (ninS n124 (ninS n137 (ninS n150 (ninS n163 (ninS n176 (ninS n189 nin0)))))))))))
    refine own_getF X297 hx hZ hown (own_w hw 31 rfl) Via.refl e297 F25_299 (hb hby at_203) ?_
    intro T298 X298 e298
    show own_Go p e below _ T298 (mkF m 206 #[.val (.int p1), .val (.int p2), .val (.int p3), .val (.int p4), .val (.int p5), .val (.int p6), .val (.int (1 : Int32)), .val (.int src), .val (.int old), .val (.ref b1), .val (.ref b13)] [(.int (1 : Int32))])
    refine own_by (fun t_ k_ => XS.iload X298.here hx rfl (hb hby at_206) rfl k_) ?_
    show own_Go p e below _ T298 (mkF m 208 #[.val (.int p1), .val (.int p2), .val (.int p3), .val (.int p4), .val (.int p5), .val (.int p6), .val (.int (1 : Int32)), .val (.int src), .val (.int old), .val (.ref b1), .val (.ref b13)] [(.int (1 : Int32)), (.int (1 : Int32))])
    refine own_icmp X298 hx 233 (hb hby at_208) (by decide) (by decide) (fun hc => absurd (show (1 : Int32) = (1 : Int32) from by decide) (by first | exact hc | exact not_not_intro hc)) (fun _ => ?_)
    show own_Go p e below _ T298 (mkF m 211 #[.val (.int p1), .val (.int p2), .val (.int p3), .val (.int p4), .val (.int p5), .val (.int p6), .val (.int (1 : Int32)), .val (.int src), .val (.int old), .val (.ref b1), .val (.ref b13)] [])
    refine own_by (fun t_ k_ => XS.aload X298.here hx rfl (hb hby at_211) rfl rfl k_) ?_
    show own_Go p e below _ T298 (mkF m 213 #[.val (.int p1), .val (.int p2), .val (.int p3), .val (.int p4), .val (.int p5), .val (.int p6), .val (.int (1 : Int32)), .val (.int src), .val (.int old), .val (.ref b1), .val (.ref b13)] [(.ref b1)])
    have F12_301 : Fld Z T293.heap b1 "com/example/wayfold/wayfold/engine/DayTiming$Timeline" "nodes" "[I" (.ref b12_0) := (Fld.keep F12_274 K293 (ninS (Nat.ne_of_lt lt_b1_b13) (ninS n75 (ninS n98 (ninS n111 (ninS n124 (ninS n137 (ninS n150 (ninS n163 (ninS n176 (ninS n189 nin0)))))))))))
    refine own_getF X298 hx hZ hown (own_w hw 33 rfl) Via.refl e298 F12_301 (hb hby at_213) ?_
    intro T300 X300 e300
    show own_Go p e below _ T300 (mkF m 216 #[.val (.int p1), .val (.int p2), .val (.int p3), .val (.int p4), .val (.int p5), .val (.int p6), .val (.int (1 : Int32)), .val (.int src), .val (.int old), .val (.ref b1), .val (.ref b13)] [(.ref b12_0)])
    refine own_by (fun t_ k_ => XS.iconst X300.here hx rfl (hb hby at_216) k_) ?_
    show own_Go p e below _ T300 (mkF m 217 #[.val (.int p1), .val (.int p2), .val (.int p3), .val (.int p4), .val (.int p5), .val (.int p6), .val (.int (1 : Int32)), .val (.int src), .val (.int old), .val (.ref b1), .val (.ref b13)] [(.int (0 : Int32)), (.ref b12_0)])
    have V35_302 : own_Arr Z T293.heap b12_0 .int [(.int p2), (.int p3)] := (own_Arr.keep V35_284 K293 (ninS (Nat.ne_of_lt lt_b12_0_b13) (ninS n76 (ninS n99 (ninS n112 (ninS n125 (ninS n138 (ninS n151 (ninS n164 (ninS n177 (ninS n190 nin0)))))))))))
    refine own_iaload X300 hx hZ e300 V35_302 (v := (.int p2)) 0 (by decide) rfl (hb hby at_217) ?_
    show own_Go p e below _ T300 (mkF m 218 #[.val (.int p1), .val (.int p2), .val (.int p3), .val (.int p4), .val (.int p5), .val (.int p6), .val (.int (1 : Int32)), .val (.int src), .val (.int old), .val (.ref b1), .val (.ref b13)] [(.int p2)])
    refine own_by (fun t_ k_ => XS.iloadN X300.here hx rfl (hb hby at_218) rfl k_) ?_
    show own_Go p e below _ T300 (mkF m 219 #[.val (.int p1), .val (.int p2), .val (.int p3), .val (.int p4), .val (.int p5), .val (.int p6), .val (.int (1 : Int32)), .val (.int src), .val (.int old), .val (.ref b1), .val (.ref b13)] [(.int p2), (.int p2)])
    refine own_icmp X300 hx 233 (hb hby at_219) (by decide) (by decide) (fun hc => absurd (show p2 = p2 from rfl) (by first | exact hc | exact not_not_intro hc)) (fun _ => ?_)
    show own_Go p e below _ T300 (mkF m 222 #[.val (.int p1), .val (.int p2), .val (.int p3), .val (.int p4), .val (.int p5), .val (.int p6), .val (.int (1 : Int32)), .val (.int src), .val (.int old), .val (.ref b1), .val (.ref b13)] [])
    refine own_by (fun t_ k_ => XS.aload X300.here hx rfl (hb hby at_222) rfl rfl k_) ?_
    show own_Go p e below _ T300 (mkF m 224 #[.val (.int p1), .val (.int p2), .val (.int p3), .val (.int p4), .val (.int p5), .val (.int p6), .val (.int (1 : Int32)), .val (.int src), .val (.int old), .val (.ref b1), .val (.ref b13)] [(.ref b1)])
    refine own_getF X300 hx hZ hown (own_w hw 33 rfl) Via.refl e300 F12_301 (hb hby at_224) ?_
    intro T303 X303 e303
    show own_Go p e below _ T303 (mkF m 227 #[.val (.int p1), .val (.int p2), .val (.int p3), .val (.int p4), .val (.int p5), .val (.int p6), .val (.int (1 : Int32)), .val (.int src), .val (.int old), .val (.ref b1), .val (.ref b13)] [(.ref b12_0)])
    refine own_by (fun t_ k_ => XS.iconst X303.here hx rfl (hb hby at_227) k_) ?_
    show own_Go p e below _ T303 (mkF m 228 #[.val (.int p1), .val (.int p2), .val (.int p3), .val (.int p4), .val (.int p5), .val (.int p6), .val (.int (1 : Int32)), .val (.int src), .val (.int old), .val (.ref b1), .val (.ref b13)] [(.int (1 : Int32)), (.ref b12_0)])
    refine own_iaload X303 hx hZ e303 V35_302 (v := (.int p3)) 1 (by decide) rfl (hb hby at_228) ?_
    show own_Go p e below _ T303 (mkF m 229 #[.val (.int p1), .val (.int p2), .val (.int p3), .val (.int p4), .val (.int p5), .val (.int p6), .val (.int (1 : Int32)), .val (.int src), .val (.int old), .val (.ref b1), .val (.ref b13)] [(.int p3)])
    refine own_by (fun t_ k_ => XS.iloadN X303.here hx rfl (hb hby at_229) rfl k_) ?_
    show own_Go p e below _ T303 (mkF m 230 #[.val (.int p1), .val (.int p2), .val (.int p3), .val (.int p4), .val (.int p5), .val (.int p6), .val (.int (1 : Int32)), .val (.int src), .val (.int old), .val (.ref b1), .val (.ref b13)] [(.int p3), (.int p3)])
    refine own_icmp X303 hx 235 (hb hby at_230) (by decide) (by decide) (fun _ => ?_) (fun hc => absurd (show p3 = p3 from rfl) (by first | exact hc | exact not_not_intro hc))
    show own_Go p e below _ T303 (mkF m 235 #[.val (.int p1), .val (.int p2), .val (.int p3), .val (.int p4), .val (.int p5), .val (.int p6), .val (.int (1 : Int32)), .val (.int src), .val (.int old), .val (.ref b1), .val (.ref b13)] [])
    refine own_by (fun t_ k_ => XS.aload X303.here hx rfl (hb hby at_235) rfl rfl k_) ?_
    show own_Go p e below _ T303 (mkF m 237 #[.val (.int p1), .val (.int p2), .val (.int p3), .val (.int p4), .val (.int p5), .val (.int p6), .val (.int (1 : Int32)), .val (.int src), .val (.int old), .val (.ref b1), .val (.ref b13)] [(.ref b1)])
    refine own_by (fun t_ k_ => XS.iload X303.here hx rfl (hb hby at_237) rfl k_) ?_
    show own_Go p e below _ T303 (mkF m 239 #[.val (.int p1), .val (.int p2), .val (.int p3), .val (.int p4), .val (.int p5), .val (.int p6), .val (.int (1 : Int32)), .val (.int src), .val (.int old), .val (.ref b1), .val (.ref b13)] [(.int src), (.ref b1)])
    refine own_by (fun t_ k_ => XS.iload X303.here hx rfl (hb hby at_239) rfl k_) ?_
    show own_Go p e below _ T303 (mkF m 241 #[.val (.int p1), .val (.int p2), .val (.int p3), .val (.int p4), .val (.int p5), .val (.int p6), .val (.int (1 : Int32)), .val (.int src), .val (.int old), .val (.ref b1), .val (.ref b13)] [(.int src), (.int src), (.ref b1)])
    refine own_by (fun t_ k_ => XS.iconst X303.here hx rfl (hb hby at_241) k_) ?_
    show own_Go p e below _ T303 (mkF m 242 #[.val (.int p1), .val (.int p2), .val (.int p3), .val (.int p4), .val (.int p5), .val (.int p6), .val (.int (1 : Int32)), .val (.int src), .val (.int old), .val (.ref b1), .val (.ref b13)] [(.int (2 : Int32)), (.int src), (.int src), (.ref b1)])
    have F12_304 : Fld Z T293.heap b1 "com/example/wayfold/wayfold/engine/DayTiming$Timeline" "leave" "[D" (.ref b12_1) := (Fld.keep F12_275 K293 (ninS (Nat.ne_of_lt lt_b1_b13) (ninS n75 (ninS n98 (ninS n111 (ninS n124 (ninS n137 (ninS n150 (ninS n163 (ninS n176 (ninS n189 nin0)))))))))))
    have F12_305 : Fld Z T293.heap b1 "com/example/wayfold/wayfold/engine/DayTiming$Timeline" "interest" "[D" (.ref b12_2) := (Fld.keep F12_276 K293 (ninS (Nat.ne_of_lt lt_b1_b13) (ninS n75 (ninS n98 (ninS n111 (ninS n124 (ninS n137 (ninS n150 (ninS n163 (ninS n176 (ninS n189 nin0)))))))))))
    have F12_306 : Fld Z T293.heap b1 "com/example/wayfold/wayfold/engine/DayTiming$Timeline" "travel" "[D" (.ref b12_3) := (Fld.keep F12_277 K293 (ninS (Nat.ne_of_lt lt_b1_b13) (ninS n75 (ninS n98 (ninS n111 (ninS n124 (ninS n137 (ninS n150 (ninS n163 (ninS n176 (ninS n189 nin0)))))))))))
    have F12_307 : Fld Z T293.heap b1 "com/example/wayfold/wayfold/engine/DayTiming$Timeline" "visit" "[D" (.ref b12_4) := (Fld.keep F12_278 K293 (ninS (Nat.ne_of_lt lt_b1_b13) (ninS n75 (ninS n98 (ninS n111 (ninS n124 (ninS n137 (ninS n150 (ninS n163 (ninS n176 (ninS n189 nin0)))))))))))
    have F12_308 : Fld Z T293.heap b1 "com/example/wayfold/wayfold/engine/DayTiming$Timeline" "waiting" "[D" (.ref b12_5) := (Fld.keep F12_279 K293 (ninS (Nat.ne_of_lt lt_b1_b13) (ninS n75 (ninS n98 (ninS n111 (ninS n124 (ninS n137 (ninS n150 (ninS n163 (ninS n176 (ninS n189 nin0)))))))))))
    have F12_309 : Fld Z T293.heap b1 "com/example/wayfold/wayfold/engine/DayTiming$Timeline" "load" "[D" (.ref b12_6) := (Fld.keep F12_280 K293 (ninS (Nat.ne_of_lt lt_b1_b13) (ninS n75 (ninS n98 (ninS n111 (ninS n124 (ninS n137 (ninS n150 (ninS n163 (ninS n176 (ninS n189 nin0)))))))))))
    have F12_310 : Fld Z T293.heap b1 "com/example/wayfold/wayfold/engine/DayTiming$Timeline" "latest" "[D" (.ref b12_7) := (Fld.keep F12_281 K293 (ninS (Nat.ne_of_lt lt_b1_b13) (ninS n75 (ninS n98 (ninS n111 (ninS n124 (ninS n137 (ninS n150 (ninS n163 (ninS n176 (ninS n189 nin0)))))))))))
    have F12_311 : Fld Z T293.heap b1 "com/example/wayfold/wayfold/engine/DayTiming$Timeline" "best" "[D" (.ref b12_8) := (Fld.keep F12_282 K293 (ninS (Nat.ne_of_lt lt_b1_b13) (ninS n75 (ninS n98 (ninS n111 (ninS n124 (ninS n137 (ninS n150 (ninS n163 (ninS n176 (ninS n189 nin0)))))))))))
    have V68_312 : own_Arr Z T293.heap b12_1 .double [(.double (FP.i2d src)), (.double (FP.i2d (src + 1))), (.double (FP.i2d (src + 2)))] := (own_Arr.keep V68_285 K293 (ninS (Nat.ne_of_lt lt_b12_1_b13) (ninS n84 (ninS n107 (ninS n120 (ninS n133 (ninS n146 (ninS n159 (ninS n172 (ninS n185 (ninS n198 nin0)))))))))))
    have V68_313 : own_Arr Z T293.heap b12_2 .double [(.double (FP.i2d (src + (3 : Int32)))), (.double (FP.i2d ((src + (3 : Int32)) + 1))), (.double (FP.i2d ((src + (3 : Int32)) + 2)))] := (own_Arr.keep V68_286 K293 (ninS (Nat.ne_of_lt lt_b12_2_b13) (ninS n83 (ninS n106 (ninS n119 (ninS n132 (ninS n145 (ninS n158 (ninS n171 (ninS n184 (ninS n197 nin0)))))))))))
    have V68_314 : own_Arr Z T293.heap b12_3 .double [(.double (FP.i2d (src + ((2 : Int32) * (3 : Int32))))), (.double (FP.i2d ((src + ((2 : Int32) * (3 : Int32))) + 1))), (.double (FP.i2d ((src + ((2 : Int32) * (3 : Int32))) + 2)))] := (own_Arr.keep V68_287 K293 (ninS (Nat.ne_of_lt lt_b12_3_b13) (ninS n82 (ninS n105 (ninS n118 (ninS n131 (ninS n144 (ninS n157 (ninS n170 (ninS n183 (ninS n196 nin0)))))))))))
    have V68_315 : own_Arr Z T293.heap b12_4 .double [(.double (FP.i2d (src + ((3 : Int32) * (3 : Int32))))), (.double (FP.i2d ((src + ((3 : Int32) * (3 : Int32))) + 1))), (.double (FP.i2d ((src + ((3 : Int32) * (3 : Int32))) + 2)))] := (own_Arr.keep V68_288 K293 (ninS (Nat.ne_of_lt lt_b12_4_b13) (ninS n81 (ninS n104 (ninS n117 (ninS n130 (ninS n143 (ninS n156 (ninS n169 (ninS n182 (ninS n195 nin0)))))))))))
    have V68_316 : own_Arr Z T293.heap b12_5 .double [(.double (FP.i2d (src + ((4 : Int32) * (3 : Int32))))), (.double (FP.i2d ((src + ((4 : Int32) * (3 : Int32))) + 1))), (.double (FP.i2d ((src + ((4 : Int32) * (3 : Int32))) + 2)))] := (own_Arr.keep V68_289 K293 (ninS (Nat.ne_of_lt lt_b12_5_b13) (ninS n80 (ninS n103 (ninS n116 (ninS n129 (ninS n142 (ninS n155 (ninS n168 (ninS n181 (ninS n194 nin0)))))))))))
    have V68_317 : own_Arr Z T293.heap b12_6 .double [(.double (FP.i2d (src + ((5 : Int32) * (3 : Int32))))), (.double (FP.i2d ((src + ((5 : Int32) * (3 : Int32))) + 1))), (.double (FP.i2d ((src + ((5 : Int32) * (3 : Int32))) + 2)))] := (own_Arr.keep V68_290 K293 (ninS (Nat.ne_of_lt lt_b12_6_b13) (ninS n79 (ninS n102 (ninS n115 (ninS n128 (ninS n141 (ninS n154 (ninS n167 (ninS n180 (ninS n193 nin0)))))))))))
    have V68_318 : own_Arr Z T293.heap b12_7 .double [(.double (FP.i2d (src + ((6 : Int32) * (3 : Int32))))), (.double (FP.i2d ((src + ((6 : Int32) * (3 : Int32))) + 1))), (.double (FP.i2d ((src + ((6 : Int32) * (3 : Int32))) + 2)))] := (own_Arr.keep V68_291 K293 (ninS (Nat.ne_of_lt lt_b12_7_b13) (ninS n78 (ninS n101 (ninS n114 (ninS n127 (ninS n140 (ninS n153 (ninS n166 (ninS n179 (ninS n192 nin0)))))))))))
    have V68_319 : own_Arr Z T293.heap b12_8 .double [(.double (FP.i2d (src + ((7 : Int32) * (3 : Int32))))), (.double (FP.i2d ((src + ((7 : Int32) * (3 : Int32))) + 1))), (.double (FP.i2d ((src + ((7 : Int32) * (3 : Int32))) + 2)))] := (own_Arr.keep V68_292 K293 (ninS (Nat.ne_of_lt lt_b12_8_b13) (ninS n77 (ninS n100 (ninS n113 (ninS n126 (ninS n139 (ninS n152 (ninS n165 (ninS n178 (ninS n191 nin0)))))))))))
    refine own_callS (W := 0) X303 hx hZ (y := (⟨"com/example/wayfold/wayfold/engine/TimelineCopyPinLaw", "okAll", "(Lcom/example/wayfold/wayfold/engine/DayTiming$Timeline;III)Z"⟩ : MethodName)) hown (own_w hw 59 rfl) (own_w hw 60 rfl) (own_w hw 36 rfl) (own_w hw 61 rfl) (by decide) (by rw [hml]; rfl) (argsL := [(.ref b1), (.int src), (.int src), (.int (2 : Int32))]) pd_6 rfl (rm6 l Z a0 hw [] b1 src src (2 : Int32) b12_1 b12_2 b12_3 b12_4 b12_5 b12_6 b12_7 b12_8 src (src + 1) (src + 2) (src + (3 : Int32)) ((src + (3 : Int32)) + 1) ((src + (3 : Int32)) + 2) (src + ((2 : Int32) * (3 : Int32))) ((src + ((2 : Int32) * (3 : Int32))) + 1) ((src + ((2 : Int32) * (3 : Int32))) + 2) (src + ((3 : Int32) * (3 : Int32))) ((src + ((3 : Int32) * (3 : Int32))) + 1) ((src + ((3 : Int32) * (3 : Int32))) + 2) (src + ((4 : Int32) * (3 : Int32))) ((src + ((4 : Int32) * (3 : Int32))) + 1) ((src + ((4 : Int32) * (3 : Int32))) + 2) (src + ((5 : Int32) * (3 : Int32))) ((src + ((5 : Int32) * (3 : Int32))) + 1) ((src + ((5 : Int32) * (3 : Int32))) + 2) (src + ((6 : Int32) * (3 : Int32))) ((src + ((6 : Int32) * (3 : Int32))) + 1) ((src + ((6 : Int32) * (3 : Int32))) + 2) (src + ((7 : Int32) * (3 : Int32))) ((src + ((7 : Int32) * (3 : Int32))) + 1) ((src + ((7 : Int32) * (3 : Int32))) + 2) T293.heap n0 sz293 F12_304 F12_305 F12_306 F12_307 F12_308 F12_309 F12_310 F12_311 V68_312 V68_313 V68_314 V68_315 V68_316 V68_317 V68_318 V68_319 (rfl : src = src) ((congrArg (· + 1) (rfl : src = src)).trans (if_neg (by decide)).symm) ((congrArg (· + 2) (rfl : src = src)).trans (if_neg (by decide)).symm) (own_s1 src) ((congrArg (· + 1) (own_s1 src)).trans (if_neg (by decide)).symm) ((congrArg (· + 2) (own_s1 src)).trans (if_neg (by decide)).symm) (own_s2 src) ((congrArg (· + 1) (own_s2 src)).trans (if_neg (by decide)).symm) ((congrArg (· + 2) (own_s2 src)).trans (if_neg (by decide)).symm) (own_s3 src) ((congrArg (· + 1) (own_s3 src)).trans (if_neg (by decide)).symm) ((congrArg (· + 2) (own_s3 src)).trans (if_neg (by decide)).symm) (own_s4 src) ((congrArg (· + 1) (own_s4 src)).trans (if_neg (by decide)).symm) ((congrArg (· + 2) (own_s4 src)).trans (if_neg (by decide)).symm) (own_s5 src) ((congrArg (· + 1) (own_s5 src)).trans (if_neg (by decide)).symm) ((congrArg (· + 2) (own_s5 src)).trans (if_neg (by decide)).symm) (own_s6 src) ((congrArg (· + 1) (own_s6 src)).trans (if_neg (by decide)).symm) ((congrArg (· + 2) (own_s6 src)).trans (if_neg (by decide)).symm) (own_s7 src) ((congrArg (· + 1) (own_s7 src)).trans (if_neg (by decide)).symm) ((congrArg (· + 2) (own_s7 src)).trans (if_neg (by decide)).symm)) (by decide) (by decide) (Nat.le_of_eq rfl) (by decide) (by decide) (rest := []) e303 rfl (hb hby at_242) ?_
    intro v320 T320 L320 X320 hQ320
    obtain ⟨rfl, N320q, e320⟩ := hQ320
    have N320 := Fr.app N297 N320q
    show own_Go p e below _ T320 (mkF m 245 #[.val (.int p1), .val (.int p2), .val (.int p3), .val (.int p4), .val (.int p5), .val (.int p6), .val (.int (1 : Int32)), .val (.int src), .val (.int old), .val (.ref b1), .val (.ref b13)] [(.int (1 : Int32))])
    refine own_retZ X320 hx hlk Bd.returns (by decide) (hb hby at_245) e320 (by decide) (by decide) ?_
    exact ⟨rfl, N320⟩
  · show own_Go p e below _ T202 (mkF m 116 #[.val (.int p1), .val (.int p2), .val (.int p3), .val (.int p4), .val (.int p5), .val (.int p6), .val (.int (2 : Int32)), .val (.int src), .val (.int old), .val (.ref b1), .val (.ref b13)] [])
    refine own_by (fun t_ k_ => XS.aload X202.here hx rfl (hb hby at_116) rfl rfl k_) ?_
    show own_Go p e below _ T202 (mkF m 118 #[.val (.int p1), .val (.int p2), .val (.int p3), .val (.int p4), .val (.int p5), .val (.int p6), .val (.int (2 : Int32)), .val (.int src), .val (.int old), .val (.ref b1), .val (.ref b13)] [(.ref b13)])
    refine own_by (fun t_ k_ => XS.aload X202.here hx rfl (hb hby at_118) rfl rfl k_) ?_
    show own_Go p e below _ T202 (mkF m 120 #[.val (.int p1), .val (.int p2), .val (.int p3), .val (.int p4), .val (.int p5), .val (.int p6), .val (.int (2 : Int32)), .val (.int src), .val (.int old), .val (.ref b1), .val (.ref b13)] [(.ref b1), (.ref b13)])
    have E24_321 : Exa Z T202.heap b13 "com/example/wayfold/wayfold/engine/DayTiming$Timeline" := (Exa.keep (Exa.wr W89 (Exa.wr W74 (Exa.wr W69 E24_71))) K202)
    have F69_322 : Fld Z T202.heap b13 "com/example/wayfold/wayfold/engine/DayTiming$Timeline" "length" "I" (.int ((p6 &&& (2147483647 : Int32)) % (3 : Int32))) := (Fld.keep (Fld.other W89 (Fld.other W74 F69 (Or.inl n85)) (Or.inl n85)) K202 (ninS n108 (ninS n121 (ninS n134 (ninS n147 (ninS n160 (ninS n173 (ninS n186 (ninS n199 nin0)))))))))
    have F25_323 : Fld Z T202.heap b1 "com/example/wayfold/wayfold/engine/DayTiming$Timeline" "length" "I" (.int (2 : Int32)) := (Fld.keep (Fld.other W89 (Fld.other W74 (Fld.other W69 (Fld.keep (Fld.other W35 (Fld.other W30 F25 (Or.inl n31)) (Or.inl n31)) K68 (ninS n44 (ninS n47 (ninS n50 (ninS n53 (ninS n56 (ninS n59 (ninS n62 (ninS n65 nin0))))))))) (Or.inl (Nat.ne_of_lt lt_b1_b13))) (Or.inl n75)) (Or.inl n75)) K202 (ninS n98 (ninS n111 (ninS n124 (ninS n137 (ninS n150 (ninS n163 (ninS n176 (ninS n189 nin0)))))))))
    have F24_324 : Fld Z T202.heap b13 "com/example/wayfold/wayfold/engine/DayTiming$Timeline" "nodes" "[I" (.ref b24_0) := (Fld.keep (Fld.other W89 F24_88 (Or.inl n85)) K202 (ninS n108 (ninS n121 (ninS n134 (ninS n147 (ninS n160 (ninS n173 (ninS n186 (ninS n199 nin0)))))))))
    have F24_325 : Fld Z T202.heap b13 "com/example/wayfold/wayfold/engine/DayTiming$Timeline" "leave" "[D" (.ref b24_1) := (Fld.keep F24_90 K202 (ninS n108 (ninS n121 (ninS n134 (ninS n147 (ninS n160 (ninS n173 (ninS n186 (ninS n199 nin0)))))))))
    have F24_326 : Fld Z T202.heap b13 "com/example/wayfold/wayfold/engine/DayTiming$Timeline" "interest" "[D" (.ref b24_2) := (Fld.keep F24_91 K202 (ninS n108 (ninS n121 (ninS n134 (ninS n147 (ninS n160 (ninS n173 (ninS n186 (ninS n199 nin0)))))))))
    have F24_327 : Fld Z T202.heap b13 "com/example/wayfold/wayfold/engine/DayTiming$Timeline" "travel" "[D" (.ref b24_3) := (Fld.keep F24_92 K202 (ninS n108 (ninS n121 (ninS n134 (ninS n147 (ninS n160 (ninS n173 (ninS n186 (ninS n199 nin0)))))))))
    have F24_328 : Fld Z T202.heap b13 "com/example/wayfold/wayfold/engine/DayTiming$Timeline" "visit" "[D" (.ref b24_4) := (Fld.keep F24_93 K202 (ninS n108 (ninS n121 (ninS n134 (ninS n147 (ninS n160 (ninS n173 (ninS n186 (ninS n199 nin0)))))))))
    have F24_329 : Fld Z T202.heap b13 "com/example/wayfold/wayfold/engine/DayTiming$Timeline" "waiting" "[D" (.ref b24_5) := (Fld.keep F24_94 K202 (ninS n108 (ninS n121 (ninS n134 (ninS n147 (ninS n160 (ninS n173 (ninS n186 (ninS n199 nin0)))))))))
    have F24_330 : Fld Z T202.heap b13 "com/example/wayfold/wayfold/engine/DayTiming$Timeline" "load" "[D" (.ref b24_6) := (Fld.keep F24_95 K202 (ninS n108 (ninS n121 (ninS n134 (ninS n147 (ninS n160 (ninS n173 (ninS n186 (ninS n199 nin0)))))))))
    have F24_331 : Fld Z T202.heap b13 "com/example/wayfold/wayfold/engine/DayTiming$Timeline" "latest" "[D" (.ref b24_7) := (Fld.keep F24_96 K202 (ninS n108 (ninS n121 (ninS n134 (ninS n147 (ninS n160 (ninS n173 (ninS n186 (ninS n199 nin0)))))))))
    have F24_332 : Fld Z T202.heap b13 "com/example/wayfold/wayfold/engine/DayTiming$Timeline" "best" "[D" (.ref b24_8) := (Fld.keep F24_97 K202 (ninS n108 (ninS n121 (ninS n134 (ninS n147 (ninS n160 (ninS n173 (ninS n186 (ninS n199 nin0)))))))))
    have F12_333 : Fld Z T202.heap b1 "com/example/wayfold/wayfold/engine/DayTiming$Timeline" "nodes" "[I" (.ref b12_0) := (Fld.keep (Fld.other W89 (Fld.other W74 (Fld.other W69 (Fld.keep (Fld.other W35 F12_34 (Or.inl n31)) K68 (ninS n44 (ninS n47 (ninS n50 (ninS n53 (ninS n56 (ninS n59 (ninS n62 (ninS n65 nin0))))))))) (Or.inl (Nat.ne_of_lt lt_b1_b13))) (Or.inl n75)) (Or.inl n75)) K202 (ninS n98 (ninS n111 (ninS n124 (ninS n137 (ninS n150 (ninS n163 (ninS n176 (ninS n189 nin0)))))))))
    have F12_334 : Fld Z T202.heap b1 "com/example/wayfold/wayfold/engine/DayTiming$Timeline" "leave" "[D" (.ref b12_1) := (Fld.keep (Fld.other W89 (Fld.other W74 (Fld.other W69 (Fld.keep F12_36 K68 (ninS n44 (ninS n47 (ninS n50 (ninS n53 (ninS n56 (ninS n59 (ninS n62 (ninS n65 nin0))))))))) (Or.inl (Nat.ne_of_lt lt_b1_b13))) (Or.inl n75)) (Or.inl n75)) K202 (ninS n98 (ninS n111 (ninS n124 (ninS n137 (ninS n150 (ninS n163 (ninS n176 (ninS n189 nin0)))))))))
    have F12_335 : Fld Z T202.heap b1 "com/example/wayfold/wayfold/engine/DayTiming$Timeline" "interest" "[D" (.ref b12_2) := (Fld.keep (Fld.other W89 (Fld.other W74 (Fld.other W69 (Fld.keep F12_37 K68 (ninS n44 (ninS n47 (ninS n50 (ninS n53 (ninS n56 (ninS n59 (ninS n62 (ninS n65 nin0))))))))) (Or.inl (Nat.ne_of_lt lt_b1_b13))) (Or.inl n75)) (Or.inl n75)) K202 (ninS n98 (ninS n111 (ninS n124 (ninS n137 (ninS n150 (ninS n163 (ninS n176 (ninS n189 nin0)))))))))
    have F12_336 : Fld Z T202.heap b1 "com/example/wayfold/wayfold/engine/DayTiming$Timeline" "travel" "[D" (.ref b12_3) := (Fld.keep (Fld.other W89 (Fld.other W74 (Fld.other W69 (Fld.keep F12_38 K68 (ninS n44 (ninS n47 (ninS n50 (ninS n53 (ninS n56 (ninS n59 (ninS n62 (ninS n65 nin0))))))))) (Or.inl (Nat.ne_of_lt lt_b1_b13))) (Or.inl n75)) (Or.inl n75)) K202 (ninS n98 (ninS n111 (ninS n124 (ninS n137 (ninS n150 (ninS n163 (ninS n176 (ninS n189 nin0)))))))))
    have F12_337 : Fld Z T202.heap b1 "com/example/wayfold/wayfold/engine/DayTiming$Timeline" "visit" "[D" (.ref b12_4) := (Fld.keep (Fld.other W89 (Fld.other W74 (Fld.other W69 (Fld.keep F12_39 K68 (ninS n44 (ninS n47 (ninS n50 (ninS n53 (ninS n56 (ninS n59 (ninS n62 (ninS n65 nin0))))))))) (Or.inl (Nat.ne_of_lt lt_b1_b13))) (Or.inl n75)) (Or.inl n75)) K202 (ninS n98 (ninS n111 (ninS n124 (ninS n137 (ninS n150 (ninS n163 (ninS n176 (ninS n189 nin0)))))))))
    have F12_338 : Fld Z T202.heap b1 "com/example/wayfold/wayfold/engine/DayTiming$Timeline" "waiting" "[D" (.ref b12_5) := (Fld.keep (Fld.other W89 (Fld.other W74 (Fld.other W69 (Fld.keep F12_40 K68 (ninS n44 (ninS n47 (ninS n50 (ninS n53 (ninS n56 (ninS n59 (ninS n62 (ninS n65 nin0))))))))) (Or.inl (Nat.ne_of_lt lt_b1_b13))) (Or.inl n75)) (Or.inl n75)) K202 (ninS n98 (ninS n111 (ninS n124 (ninS n137 (ninS n150 (ninS n163 (ninS n176 (ninS n189 nin0)))))))))
    have F12_339 : Fld Z T202.heap b1 "com/example/wayfold/wayfold/engine/DayTiming$Timeline" "load" "[D" (.ref b12_6) := (Fld.keep (Fld.other W89 (Fld.other W74 (Fld.other W69 (Fld.keep F12_41 K68 (ninS n44 (ninS n47 (ninS n50 (ninS n53 (ninS n56 (ninS n59 (ninS n62 (ninS n65 nin0))))))))) (Or.inl (Nat.ne_of_lt lt_b1_b13))) (Or.inl n75)) (Or.inl n75)) K202 (ninS n98 (ninS n111 (ninS n124 (ninS n137 (ninS n150 (ninS n163 (ninS n176 (ninS n189 nin0)))))))))
    have F12_340 : Fld Z T202.heap b1 "com/example/wayfold/wayfold/engine/DayTiming$Timeline" "latest" "[D" (.ref b12_7) := (Fld.keep (Fld.other W89 (Fld.other W74 (Fld.other W69 (Fld.keep F12_42 K68 (ninS n44 (ninS n47 (ninS n50 (ninS n53 (ninS n56 (ninS n59 (ninS n62 (ninS n65 nin0))))))))) (Or.inl (Nat.ne_of_lt lt_b1_b13))) (Or.inl n75)) (Or.inl n75)) K202 (ninS n98 (ninS n111 (ninS n124 (ninS n137 (ninS n150 (ninS n163 (ninS n176 (ninS n189 nin0)))))))))
    have F12_341 : Fld Z T202.heap b1 "com/example/wayfold/wayfold/engine/DayTiming$Timeline" "best" "[D" (.ref b12_8) := (Fld.keep (Fld.other W89 (Fld.other W74 (Fld.other W69 (Fld.keep F12_43 K68 (ninS n44 (ninS n47 (ninS n50 (ninS n53 (ninS n56 (ninS n59 (ninS n62 (ninS n65 nin0))))))))) (Or.inl (Nat.ne_of_lt lt_b1_b13))) (Or.inl n75)) (Or.inl n75)) K202 (ninS n98 (ninS n111 (ninS n124 (ninS n137 (ninS n150 (ninS n163 (ninS n176 (ninS n189 nin0)))))))))
    have V89_342 : own_Arr Z T202.heap b24_0 .int [(.int (p2 ^^^ (-1 : Int32))), (.int (p3 ^^^ (-1 : Int32)))] := (own_Arr.keep V89_0 K202 (ninS n109 (ninS n122 (ninS n135 (ninS n148 (ninS n161 (ninS n174 (ninS n187 (ninS n200 nin0)))))))))
    have V35_343 : own_Arr Z T202.heap b12_0 .int [(.int p2), (.int p3)] := (own_Arr.keep (own_Arr.other (own_Arr.other (own_Arr.other (own_Arr.keep V35_0 K68 (ninS n45 (ninS n48 (ninS n51 (ninS n54 (ninS n57 (ninS n60 (ninS n63 (ninS n66 nin0))))))))) W69 (Nat.ne_of_lt lt_b12_0_b13)) W74 n76) W89 n76) K202 (ninS n99 (ninS n112 (ninS n125 (ninS n138 (ninS n151 (ninS n164 (ninS n177 (ninS n190 nin0)))))))))
    have V68_344 : own_Arr Z T202.heap b12_1 .double [(.double (FP.i2d src)), (.double (FP.i2d (src + 1))), (.double (FP.i2d (src + 2)))] := (own_Arr.keep (own_Arr.other (own_Arr.other (own_Arr.other V68_0 W69 (Nat.ne_of_lt lt_b12_1_b13)) W74 n84) W89 n84) K202 (ninS n107 (ninS n120 (ninS n133 (ninS n146 (ninS n159 (ninS n172 (ninS n185 (ninS n198 nin0)))))))))
    have V68_345 : own_Arr Z T202.heap b12_2 .double [(.double (FP.i2d (src + (3 : Int32)))), (.double (FP.i2d ((src + (3 : Int32)) + 1))), (.double (FP.i2d ((src + (3 : Int32)) + 2)))] := (own_Arr.keep (own_Arr.other (own_Arr.other (own_Arr.other V68_1 W69 (Nat.ne_of_lt lt_b12_2_b13)) W74 n83) W89 n83) K202 (ninS n106 (ninS n119 (ninS n132 (ninS n145 (ninS n158 (ninS n171 (ninS n184 (ninS n197 nin0)))))))))
    have V68_346 : own_Arr Z T202.heap b12_3 .double [(.double (FP.i2d (src + ((2 : Int32) * (3 : Int32))))), (.double (FP.i2d ((src + ((2 : Int32) * (3 : Int32))) + 1))), (.double (FP.i2d ((src + ((2 : Int32) * (3 : Int32))) + 2)))] := (own_Arr.keep (own_Arr.other (own_Arr.other (own_Arr.other V68_2 W69 (Nat.ne_of_lt lt_b12_3_b13)) W74 n82) W89 n82) K202 (ninS n105 (ninS n118 (ninS n131 (ninS n144 (ninS n157 (ninS n170 (ninS n183 (ninS n196 nin0)))))))))
    have V68_347 : own_Arr Z T202.heap b12_4 .double [(.double (FP.i2d (src + ((3 : Int32) * (3 : Int32))))), (.double (FP.i2d ((src + ((3 : Int32) * (3 : Int32))) + 1))), (.double (FP.i2d ((src + ((3 : Int32) * (3 : Int32))) + 2)))] := (own_Arr.keep (own_Arr.other (own_Arr.other (own_Arr.other V68_3 W69 (Nat.ne_of_lt lt_b12_4_b13)) W74 n81) W89 n81) K202 (ninS n104 (ninS n117 (ninS n130 (ninS n143 (ninS n156 (ninS n169 (ninS n182 (ninS n195 nin0)))))))))
    have V68_348 : own_Arr Z T202.heap b12_5 .double [(.double (FP.i2d (src + ((4 : Int32) * (3 : Int32))))), (.double (FP.i2d ((src + ((4 : Int32) * (3 : Int32))) + 1))), (.double (FP.i2d ((src + ((4 : Int32) * (3 : Int32))) + 2)))] := (own_Arr.keep (own_Arr.other (own_Arr.other (own_Arr.other V68_4 W69 (Nat.ne_of_lt lt_b12_5_b13)) W74 n80) W89 n80) K202 (ninS n103 (ninS n116 (ninS n129 (ninS n142 (ninS n155 (ninS n168 (ninS n181 (ninS n194 nin0)))))))))
    have V68_349 : own_Arr Z T202.heap b12_6 .double [(.double (FP.i2d (src + ((5 : Int32) * (3 : Int32))))), (.double (FP.i2d ((src + ((5 : Int32) * (3 : Int32))) + 1))), (.double (FP.i2d ((src + ((5 : Int32) * (3 : Int32))) + 2)))] := (own_Arr.keep (own_Arr.other (own_Arr.other (own_Arr.other V68_5 W69 (Nat.ne_of_lt lt_b12_6_b13)) W74 n79) W89 n79) K202 (ninS n102 (ninS n115 (ninS n128 (ninS n141 (ninS n154 (ninS n167 (ninS n180 (ninS n193 nin0)))))))))
    have V68_350 : own_Arr Z T202.heap b12_7 .double [(.double (FP.i2d (src + ((6 : Int32) * (3 : Int32))))), (.double (FP.i2d ((src + ((6 : Int32) * (3 : Int32))) + 1))), (.double (FP.i2d ((src + ((6 : Int32) * (3 : Int32))) + 2)))] := (own_Arr.keep (own_Arr.other (own_Arr.other (own_Arr.other V68_6 W69 (Nat.ne_of_lt lt_b12_7_b13)) W74 n78) W89 n78) K202 (ninS n101 (ninS n114 (ninS n127 (ninS n140 (ninS n153 (ninS n166 (ninS n179 (ninS n192 nin0)))))))))
    have V68_351 : own_Arr Z T202.heap b12_8 .double [(.double (FP.i2d (src + ((7 : Int32) * (3 : Int32))))), (.double (FP.i2d ((src + ((7 : Int32) * (3 : Int32))) + 1))), (.double (FP.i2d ((src + ((7 : Int32) * (3 : Int32))) + 2)))] := (own_Arr.keep (own_Arr.other (own_Arr.other (own_Arr.other V68_7 W69 (Nat.ne_of_lt lt_b12_8_b13)) W74 n77) W89 n77) K202 (ninS n100 (ninS n113 (ninS n126 (ninS n139 (ninS n152 (ninS n165 (ninS n178 (ninS n191 nin0)))))))))
    refine own_callV (W := 0) X202 hx hZ (y := (⟨"com/example/wayfold/wayfold/engine/DayTiming$Timeline", "copy", "(Lcom/example/wayfold/wayfold/engine/DayTiming$Timeline;)V"⟩ : MethodName)) (z := (⟨"com/example/wayfold/wayfold/engine/DayTiming$Timeline", "copy", "(Lcom/example/wayfold/wayfold/engine/DayTiming$Timeline;)V"⟩ : MethodName)) hown (own_w hw 49 rfl) (own_w hw 50 rfl) (notFace_of_selects (args := #[]) (mvT hZ (own_w hw 52 rfl))) (own_w hw 52 rfl) (own_w hw 51 rfl) (own_w hw 4 rfl) (own_w hw 53 rfl) (by decide) (by rw [hml]; rfl) (argsL := [(.ref b1)]) pd_4 rfl (a := b13) rfl E24_321 (rm5 l Z a0 hw [] b13 b1 b24_0 b24_1 b24_2 b24_3 b24_4 b24_5 b24_6 b24_7 b24_8 b12_0 b12_1 b12_2 b12_3 b12_4 b12_5 b12_6 b12_7 b12_8 _ _ 2 (.int (p2 ^^^ (-1 : Int32))) (.int (p3 ^^^ (-1 : Int32))) (.double (FP.i2d old)) (.double (FP.i2d (old + 1))) (.double (FP.i2d (old + 2))) (.double (FP.i2d (old + (-3 : Int32)))) (.double (FP.i2d ((old + (-3 : Int32)) + 1))) (.double (FP.i2d ((old + (-3 : Int32)) + 2))) (.double (FP.i2d (old + ((2 : Int32) * (-3 : Int32))))) (.double (FP.i2d ((old + ((2 : Int32) * (-3 : Int32))) + 1))) (.double (FP.i2d ((old + ((2 : Int32) * (-3 : Int32))) + 2))) (.double (FP.i2d (old + ((3 : Int32) * (-3 : Int32))))) (.double (FP.i2d ((old + ((3 : Int32) * (-3 : Int32))) + 1))) (.double (FP.i2d ((old + ((3 : Int32) * (-3 : Int32))) + 2))) (.double (FP.i2d (old + ((4 : Int32) * (-3 : Int32))))) (.double (FP.i2d ((old + ((4 : Int32) * (-3 : Int32))) + 1))) (.double (FP.i2d ((old + ((4 : Int32) * (-3 : Int32))) + 2))) (.double (FP.i2d (old + ((5 : Int32) * (-3 : Int32))))) (.double (FP.i2d ((old + ((5 : Int32) * (-3 : Int32))) + 1))) (.double (FP.i2d ((old + ((5 : Int32) * (-3 : Int32))) + 2))) (.double (FP.i2d (old + ((6 : Int32) * (-3 : Int32))))) (.double (FP.i2d ((old + ((6 : Int32) * (-3 : Int32))) + 1))) (.double (FP.i2d ((old + ((6 : Int32) * (-3 : Int32))) + 2))) (.double (FP.i2d (old + ((7 : Int32) * (-3 : Int32))))) (.double (FP.i2d ((old + ((7 : Int32) * (-3 : Int32))) + 1))) (.double (FP.i2d ((old + ((7 : Int32) * (-3 : Int32))) + 2))) (.int p2) (.int p3) (.double (FP.i2d src)) (.double (FP.i2d (src + 1))) (.double (FP.i2d (src + 2))) (.double (FP.i2d (src + (3 : Int32)))) (.double (FP.i2d ((src + (3 : Int32)) + 1))) (.double (FP.i2d ((src + (3 : Int32)) + 2))) (.double (FP.i2d (src + ((2 : Int32) * (3 : Int32))))) (.double (FP.i2d ((src + ((2 : Int32) * (3 : Int32))) + 1))) (.double (FP.i2d ((src + ((2 : Int32) * (3 : Int32))) + 2))) (.double (FP.i2d (src + ((3 : Int32) * (3 : Int32))))) (.double (FP.i2d ((src + ((3 : Int32) * (3 : Int32))) + 1))) (.double (FP.i2d ((src + ((3 : Int32) * (3 : Int32))) + 2))) (.double (FP.i2d (src + ((4 : Int32) * (3 : Int32))))) (.double (FP.i2d ((src + ((4 : Int32) * (3 : Int32))) + 1))) (.double (FP.i2d ((src + ((4 : Int32) * (3 : Int32))) + 2))) (.double (FP.i2d (src + ((5 : Int32) * (3 : Int32))))) (.double (FP.i2d ((src + ((5 : Int32) * (3 : Int32))) + 1))) (.double (FP.i2d ((src + ((5 : Int32) * (3 : Int32))) + 2))) (.double (FP.i2d (src + ((6 : Int32) * (3 : Int32))))) (.double (FP.i2d ((src + ((6 : Int32) * (3 : Int32))) + 1))) (.double (FP.i2d ((src + ((6 : Int32) * (3 : Int32))) + 2))) (.double (FP.i2d (src + ((7 : Int32) * (3 : Int32))))) (.double (FP.i2d ((src + ((7 : Int32) * (3 : Int32))) + 1))) (.double (FP.i2d ((src + ((7 : Int32) * (3 : Int32))) + 2))) T202.heap n0 sz202 E24_321 F69_322 F25_323 F24_324 F24_325 F24_326 F24_327 F24_328 F24_329 F24_330 F24_331 F24_332 F12_333 F12_334 F12_335 F12_336 F12_337 F12_338 F12_339 F12_340 F12_341 V89_342 V202_0 V202_1 V202_2 V202_3 V202_4 V202_5 V202_6 V202_7 V35_343 V68_344 V68_345 V68_346 V68_347 V68_348 V68_349 V68_350 V68_351 lx12 q12_0 q12_1 q12_2 q12_3 q12_4 q12_5 q12_6 q12_7 lt_b12_8_b13 lx24 q24_0 q24_1 q24_2 q24_3 q24_4 q24_5 q24_6 q24_7 g_b13 g_b24_0 g_b24_1 g_b24_2 g_b24_3 g_b24_4 g_b24_5 g_b24_6 g_b24_7 g_b24_8 (Or.inr (Or.inr ⟨rfl, rfl⟩))) (by decide) (by decide) (Nat.le_of_eq rfl) (by decide) (by decide) (rest := []) rfl (hb hby at_120) ?_
    intro v352 T352 L352 X352 hQ352
    obtain ⟨rfl, N352q, K352, E352, Fl352, ⟨F352_0, F352_1, F352_2, F352_3, F352_4, F352_5, F352_6, F352_7, F352_8⟩, V352_0, V352_1, V352_2, V352_3, V352_4, V352_5, V352_6, V352_7, V352_8⟩ := hQ352
    have N352 := Fr.app N202 N352q
    have sz352 : n0 ≤ T352.heap.size := Nat.le_trans sz202 K352.1
    show own_Go p e below _ T352 (mkF m 123 #[.val (.int p1), .val (.int p2), .val (.int p3), .val (.int p4), .val (.int p5), .val (.int p6), .val (.int (2 : Int32)), .val (.int src), .val (.int old), .val (.ref b1), .val (.ref b13)] [])
    refine own_by (fun t_ k_ => XS.aload X352.here hx rfl (hb hby at_123) rfl rfl k_) ?_
    show own_Go p e below _ T352 (mkF m 125 #[.val (.int p1), .val (.int p2), .val (.int p3), .val (.int p4), .val (.int p5), .val (.int p6), .val (.int (2 : Int32)), .val (.int src), .val (.int old), .val (.ref b1), .val (.ref b13)] [(.ref b13)])
    refine own_getF X352 hx hZ hown (own_w hw 31 rfl) Via.refl rfl Fl352 (hb hby at_125) ?_
    intro T353 X353 e353
    show own_Go p e below _ T353 (mkF m 128 #[.val (.int p1), .val (.int p2), .val (.int p3), .val (.int p4), .val (.int p5), .val (.int p6), .val (.int (2 : Int32)), .val (.int src), .val (.int old), .val (.ref b1), .val (.ref b13)] [(.int (2 : Int32))])
    refine own_by (fun t_ k_ => XS.iload X353.here hx rfl (hb hby at_128) rfl k_) ?_
    show own_Go p e below _ T353 (mkF m 130 #[.val (.int p1), .val (.int p2), .val (.int p3), .val (.int p4), .val (.int p5), .val (.int p6), .val (.int (2 : Int32)), .val (.int src), .val (.int old), .val (.ref b1), .val (.ref b13)] [(.int (2 : Int32)), (.int (2 : Int32))])
    refine own_icmp X353 hx 135 (hb hby at_130) (by decide) (by decide) (fun _ => ?_) (fun hc => absurd (show (2 : Int32) = (2 : Int32) from by decide) (by first | exact hc | exact not_not_intro hc))
    show own_Go p e below _ T353 (mkF m 135 #[.val (.int p1), .val (.int p2), .val (.int p3), .val (.int p4), .val (.int p5), .val (.int p6), .val (.int (2 : Int32)), .val (.int src), .val (.int old), .val (.ref b1), .val (.ref b13)] [])
    refine own_by (fun t_ k_ => XS.aload X353.here hx rfl (hb hby at_135) rfl rfl k_) ?_
    show own_Go p e below _ T353 (mkF m 137 #[.val (.int p1), .val (.int p2), .val (.int p3), .val (.int p4), .val (.int p5), .val (.int p6), .val (.int (2 : Int32)), .val (.int src), .val (.int old), .val (.ref b1), .val (.ref b13)] [(.ref b13)])
    refine own_getF X353 hx hZ hown (own_w hw 33 rfl) Via.refl e353 F352_0 (hb hby at_137) ?_
    intro T354 X354 e354
    show own_Go p e below _ T354 (mkF m 140 #[.val (.int p1), .val (.int p2), .val (.int p3), .val (.int p4), .val (.int p5), .val (.int p6), .val (.int (2 : Int32)), .val (.int src), .val (.int old), .val (.ref b1), .val (.ref b13)] [(.ref b24_0)])
    refine own_by (fun t_ k_ => XS.iconst X354.here hx rfl (hb hby at_140) k_) ?_
    show own_Go p e below _ T354 (mkF m 141 #[.val (.int p1), .val (.int p2), .val (.int p3), .val (.int p4), .val (.int p5), .val (.int p6), .val (.int (2 : Int32)), .val (.int src), .val (.int old), .val (.ref b1), .val (.ref b13)] [(.int (0 : Int32)), (.ref b24_0)])
    refine own_iaload X354 hx hZ e354 V352_0 (v := (.int p2)) 0 (by decide) rfl (hb hby at_141) ?_
    show own_Go p e below _ T354 (mkF m 142 #[.val (.int p1), .val (.int p2), .val (.int p3), .val (.int p4), .val (.int p5), .val (.int p6), .val (.int (2 : Int32)), .val (.int src), .val (.int old), .val (.ref b1), .val (.ref b13)] [(.int p2)])
    refine own_by (fun t_ k_ => XS.iload X354.here hx rfl (hb hby at_142) rfl k_) ?_
    show own_Go p e below _ T354 (mkF m 144 #[.val (.int p1), .val (.int p2), .val (.int p3), .val (.int p4), .val (.int p5), .val (.int p6), .val (.int (2 : Int32)), .val (.int src), .val (.int old), .val (.ref b1), .val (.ref b13)] [(.int (2 : Int32)), (.int p2)])
    refine own_by (fun t_ k_ => XS.iconst X354.here hx rfl (hb hby at_144) k_) ?_
    show own_Go p e below _ T354 (mkF m 145 #[.val (.int p1), .val (.int p2), .val (.int p3), .val (.int p4), .val (.int p5), .val (.int p6), .val (.int (2 : Int32)), .val (.int src), .val (.int old), .val (.ref b1), .val (.ref b13)] [(.int (1 : Int32)), (.int (2 : Int32)), (.int p2)])
    refine own_icmp X354 hx 152 (hb hby at_145) (by decide) (by decide) (fun hc => absurd (show ¬ (2 : Int32) < (1 : Int32) from by decide) (by first | exact hc | exact not_not_intro hc)) (fun _ => ?_)
    show own_Go p e below _ T354 (mkF m 148 #[.val (.int p1), .val (.int p2), .val (.int p3), .val (.int p4), .val (.int p5), .val (.int p6), .val (.int (2 : Int32)), .val (.int src), .val (.int old), .val (.ref b1), .val (.ref b13)] [(.int p2)])
    refine own_by (fun t_ k_ => XS.iloadN X354.here hx rfl (hb hby at_148) rfl k_) ?_
    show own_Go p e below _ T354 (mkF m 149 #[.val (.int p1), .val (.int p2), .val (.int p3), .val (.int p4), .val (.int p5), .val (.int p6), .val (.int (2 : Int32)), .val (.int src), .val (.int old), .val (.ref b1), .val (.ref b13)] [(.int p2), (.int p2)])
    refine own_by (fun t_ k_ => XS.goto X354.here hx rfl (pc0 := 149) (pc' := 155) rfl (hb hby at_149) (by decide) (by decide) k_) ?_
    show own_Go p e below _ T354 (mkF m 155 #[.val (.int p1), .val (.int p2), .val (.int p3), .val (.int p4), .val (.int p5), .val (.int p6), .val (.int (2 : Int32)), .val (.int src), .val (.int old), .val (.ref b1), .val (.ref b13)] [(.int p2), (.int p2)])
    refine own_icmp X354 hx 160 (hb hby at_155) (by decide) (by decide) (fun _ => ?_) (fun hc => absurd (show p2 = p2 from rfl) (by first | exact hc | exact not_not_intro hc))
    show own_Go p e below _ T354 (mkF m 160 #[.val (.int p1), .val (.int p2), .val (.int p3), .val (.int p4), .val (.int p5), .val (.int p6), .val (.int (2 : Int32)), .val (.int src), .val (.int old), .val (.ref b1), .val (.ref b13)] [])
    refine own_by (fun t_ k_ => XS.aload X354.here hx rfl (hb hby at_160) rfl rfl k_) ?_
    show own_Go p e below _ T354 (mkF m 162 #[.val (.int p1), .val (.int p2), .val (.int p3), .val (.int p4), .val (.int p5), .val (.int p6), .val (.int (2 : Int32)), .val (.int src), .val (.int old), .val (.ref b1), .val (.ref b13)] [(.ref b13)])
    refine own_getF X354 hx hZ hown (own_w hw 33 rfl) Via.refl e354 F352_0 (hb hby at_162) ?_
    intro T355 X355 e355
    show own_Go p e below _ T355 (mkF m 165 #[.val (.int p1), .val (.int p2), .val (.int p3), .val (.int p4), .val (.int p5), .val (.int p6), .val (.int (2 : Int32)), .val (.int src), .val (.int old), .val (.ref b1), .val (.ref b13)] [(.ref b24_0)])
    refine own_by (fun t_ k_ => XS.iconst X355.here hx rfl (hb hby at_165) k_) ?_
    show own_Go p e below _ T355 (mkF m 166 #[.val (.int p1), .val (.int p2), .val (.int p3), .val (.int p4), .val (.int p5), .val (.int p6), .val (.int (2 : Int32)), .val (.int src), .val (.int old), .val (.ref b1), .val (.ref b13)] [(.int (1 : Int32)), (.ref b24_0)])
    refine own_iaload X355 hx hZ e355 V352_0 (v := (.int p3)) 1 (by decide) rfl (hb hby at_166) ?_
    show own_Go p e below _ T355 (mkF m 167 #[.val (.int p1), .val (.int p2), .val (.int p3), .val (.int p4), .val (.int p5), .val (.int p6), .val (.int (2 : Int32)), .val (.int src), .val (.int old), .val (.ref b1), .val (.ref b13)] [(.int p3)])
    refine own_by (fun t_ k_ => XS.iload X355.here hx rfl (hb hby at_167) rfl k_) ?_
    show own_Go p e below _ T355 (mkF m 169 #[.val (.int p1), .val (.int p2), .val (.int p3), .val (.int p4), .val (.int p5), .val (.int p6), .val (.int (2 : Int32)), .val (.int src), .val (.int old), .val (.ref b1), .val (.ref b13)] [(.int (2 : Int32)), (.int p3)])
    refine own_by (fun t_ k_ => XS.iconst X355.here hx rfl (hb hby at_169) k_) ?_
    show own_Go p e below _ T355 (mkF m 170 #[.val (.int p1), .val (.int p2), .val (.int p3), .val (.int p4), .val (.int p5), .val (.int p6), .val (.int (2 : Int32)), .val (.int src), .val (.int old), .val (.ref b1), .val (.ref b13)] [(.int (2 : Int32)), (.int (2 : Int32)), (.int p3)])
    refine own_icmp X355 hx 177 (hb hby at_170) (by decide) (by decide) (fun hc => absurd (show ¬ (2 : Int32) < (2 : Int32) from by decide) (by first | exact hc | exact not_not_intro hc)) (fun _ => ?_)
    show own_Go p e below _ T355 (mkF m 173 #[.val (.int p1), .val (.int p2), .val (.int p3), .val (.int p4), .val (.int p5), .val (.int p6), .val (.int (2 : Int32)), .val (.int src), .val (.int old), .val (.ref b1), .val (.ref b13)] [(.int p3)])
    refine own_by (fun t_ k_ => XS.iloadN X355.here hx rfl (hb hby at_173) rfl k_) ?_
    show own_Go p e below _ T355 (mkF m 174 #[.val (.int p1), .val (.int p2), .val (.int p3), .val (.int p4), .val (.int p5), .val (.int p6), .val (.int (2 : Int32)), .val (.int src), .val (.int old), .val (.ref b1), .val (.ref b13)] [(.int p3), (.int p3)])
    refine own_by (fun t_ k_ => XS.goto X355.here hx rfl (pc0 := 174) (pc' := 180) rfl (hb hby at_174) (by decide) (by decide) k_) ?_
    show own_Go p e below _ T355 (mkF m 180 #[.val (.int p1), .val (.int p2), .val (.int p3), .val (.int p4), .val (.int p5), .val (.int p6), .val (.int (2 : Int32)), .val (.int src), .val (.int old), .val (.ref b1), .val (.ref b13)] [(.int p3), (.int p3)])
    refine own_icmp X355 hx 185 (hb hby at_180) (by decide) (by decide) (fun _ => ?_) (fun hc => absurd (show p3 = p3 from rfl) (by first | exact hc | exact not_not_intro hc))
    show own_Go p e below _ T355 (mkF m 185 #[.val (.int p1), .val (.int p2), .val (.int p3), .val (.int p4), .val (.int p5), .val (.int p6), .val (.int (2 : Int32)), .val (.int src), .val (.int old), .val (.ref b1), .val (.ref b13)] [])
    refine own_by (fun t_ k_ => XS.aload X355.here hx rfl (hb hby at_185) rfl rfl k_) ?_
    show own_Go p e below _ T355 (mkF m 187 #[.val (.int p1), .val (.int p2), .val (.int p3), .val (.int p4), .val (.int p5), .val (.int p6), .val (.int (2 : Int32)), .val (.int src), .val (.int old), .val (.ref b1), .val (.ref b13)] [(.ref b13)])
    refine own_by (fun t_ k_ => XS.iload X355.here hx rfl (hb hby at_187) rfl k_) ?_
    show own_Go p e below _ T355 (mkF m 189 #[.val (.int p1), .val (.int p2), .val (.int p3), .val (.int p4), .val (.int p5), .val (.int p6), .val (.int (2 : Int32)), .val (.int src), .val (.int old), .val (.ref b1), .val (.ref b13)] [(.int src), (.ref b13)])
    refine own_by (fun t_ k_ => XS.iload X355.here hx rfl (hb hby at_189) rfl k_) ?_
    show own_Go p e below _ T355 (mkF m 191 #[.val (.int p1), .val (.int p2), .val (.int p3), .val (.int p4), .val (.int p5), .val (.int p6), .val (.int (2 : Int32)), .val (.int src), .val (.int old), .val (.ref b1), .val (.ref b13)] [(.int old), (.int src), (.ref b13)])
    refine own_by (fun t_ k_ => XS.iload X355.here hx rfl (hb hby at_191) rfl k_) ?_
    show own_Go p e below _ T355 (mkF m 193 #[.val (.int p1), .val (.int p2), .val (.int p3), .val (.int p4), .val (.int p5), .val (.int p6), .val (.int (2 : Int32)), .val (.int src), .val (.int old), .val (.ref b1), .val (.ref b13)] [(.int (2 : Int32)), (.int old), (.int src), (.ref b13)])
    refine own_callS (W := 0) X355 hx hZ (y := (⟨"com/example/wayfold/wayfold/engine/TimelineCopyPinLaw", "okAll", "(Lcom/example/wayfold/wayfold/engine/DayTiming$Timeline;III)Z"⟩ : MethodName)) hown (own_w hw 59 rfl) (own_w hw 60 rfl) (own_w hw 36 rfl) (own_w hw 61 rfl) (by decide) (by rw [hml]; rfl) (argsL := [(.ref b13), (.int src), (.int old), (.int (2 : Int32))]) pd_6 rfl (rm6 l Z a0 hw [] b13 src old (2 : Int32) b24_1 b24_2 b24_3 b24_4 b24_5 b24_6 b24_7 b24_8 src (src + 1) (src + 2) (src + (3 : Int32)) ((src + (3 : Int32)) + 1) ((src + (3 : Int32)) + 2) (src + ((2 : Int32) * (3 : Int32))) ((src + ((2 : Int32) * (3 : Int32))) + 1) ((src + ((2 : Int32) * (3 : Int32))) + 2) (src + ((3 : Int32) * (3 : Int32))) ((src + ((3 : Int32) * (3 : Int32))) + 1) ((src + ((3 : Int32) * (3 : Int32))) + 2) (src + ((4 : Int32) * (3 : Int32))) ((src + ((4 : Int32) * (3 : Int32))) + 1) ((src + ((4 : Int32) * (3 : Int32))) + 2) (src + ((5 : Int32) * (3 : Int32))) ((src + ((5 : Int32) * (3 : Int32))) + 1) ((src + ((5 : Int32) * (3 : Int32))) + 2) (src + ((6 : Int32) * (3 : Int32))) ((src + ((6 : Int32) * (3 : Int32))) + 1) ((src + ((6 : Int32) * (3 : Int32))) + 2) (src + ((7 : Int32) * (3 : Int32))) ((src + ((7 : Int32) * (3 : Int32))) + 1) ((src + ((7 : Int32) * (3 : Int32))) + 2) T352.heap n0 sz352 F352_1 F352_2 F352_3 F352_4 F352_5 F352_6 F352_7 F352_8 V352_1 V352_2 V352_3 V352_4 V352_5 V352_6 V352_7 V352_8 (rfl : src = src) ((congrArg (· + 1) (rfl : src = src)).trans (if_neg (by decide)).symm) ((congrArg (· + 2) (rfl : src = src)).trans (if_neg (by decide)).symm) (own_s1 src) ((congrArg (· + 1) (own_s1 src)).trans (if_neg (by decide)).symm) ((congrArg (· + 2) (own_s1 src)).trans (if_neg (by decide)).symm) (own_s2 src) ((congrArg (· + 1) (own_s2 src)).trans (if_neg (by decide)).symm) ((congrArg (· + 2) (own_s2 src)).trans (if_neg (by decide)).symm) (own_s3 src) ((congrArg (· + 1) (own_s3 src)).trans (if_neg (by decide)).symm) ((congrArg (· + 2) (own_s3 src)).trans (if_neg (by decide)).symm) (own_s4 src) ((congrArg (· + 1) (own_s4 src)).trans (if_neg (by decide)).symm) ((congrArg (· + 2) (own_s4 src)).trans (if_neg (by decide)).symm) (own_s5 src) ((congrArg (· + 1) (own_s5 src)).trans (if_neg (by decide)).symm) ((congrArg (· + 2) (own_s5 src)).trans (if_neg (by decide)).symm) (own_s6 src) ((congrArg (· + 1) (own_s6 src)).trans (if_neg (by decide)).symm) ((congrArg (· + 2) (own_s6 src)).trans (if_neg (by decide)).symm) (own_s7 src) ((congrArg (· + 1) (own_s7 src)).trans (if_neg (by decide)).symm) ((congrArg (· + 2) (own_s7 src)).trans (if_neg (by decide)).symm)) (by decide) (by decide) (Nat.le_of_eq rfl) (by decide) (by decide) (rest := []) e355 rfl (hb hby at_193) ?_
    intro v356 T356 L356 X356 hQ356
    obtain ⟨rfl, N356q, e356⟩ := hQ356
    have N356 := Fr.app N352 N356q
    show own_Go p e below _ T356 (mkF m 196 #[.val (.int p1), .val (.int p2), .val (.int p3), .val (.int p4), .val (.int p5), .val (.int p6), .val (.int (2 : Int32)), .val (.int src), .val (.int old), .val (.ref b1), .val (.ref b13)] [(.int (1 : Int32))])
    refine own_if X356 hx 201 (hb hby at_196) (by decide) (by decide) (fun _ => ?_) (fun hc => absurd (show ¬ (1 : Int32) = (0 : Int32) from by decide) (by first | exact hc | exact not_not_intro hc))
    show own_Go p e below _ T356 (mkF m 201 #[.val (.int p1), .val (.int p2), .val (.int p3), .val (.int p4), .val (.int p5), .val (.int p6), .val (.int (2 : Int32)), .val (.int src), .val (.int old), .val (.ref b1), .val (.ref b13)] [])
    refine own_by (fun t_ k_ => XS.aload X356.here hx rfl (hb hby at_201) rfl rfl k_) ?_
    show own_Go p e below _ T356 (mkF m 203 #[.val (.int p1), .val (.int p2), .val (.int p3), .val (.int p4), .val (.int p5), .val (.int p6), .val (.int (2 : Int32)), .val (.int src), .val (.int old), .val (.ref b1), .val (.ref b13)] [(.ref b1)])
    have F25_358 : Fld Z T352.heap b1 "com/example/wayfold/wayfold/engine/DayTiming$Timeline" "length" "I" (.int (2 : Int32)) := (Fld.keep F25_323 K352 (ninS (Nat.ne_of_lt lt_b1_b13) (ninS n75 (ninS n98 (ninS n111 (ninS n124 (ninS n137 (ninS n150 (ninS n163 (ninS n176 (ninS n189 nin0)))))))))))
    refine own_getF X356 hx hZ hown (own_w hw 31 rfl) Via.refl e356 F25_358 (hb hby at_203) ?_
    intro T357 X357 e357
    show own_Go p e below _ T357 (mkF m 206 #[.val (.int p1), .val (.int p2), .val (.int p3), .val (.int p4), .val (.int p5), .val (.int p6), .val (.int (2 : Int32)), .val (.int src), .val (.int old), .val (.ref b1), .val (.ref b13)] [(.int (2 : Int32))])
    refine own_by (fun t_ k_ => XS.iload X357.here hx rfl (hb hby at_206) rfl k_) ?_
    show own_Go p e below _ T357 (mkF m 208 #[.val (.int p1), .val (.int p2), .val (.int p3), .val (.int p4), .val (.int p5), .val (.int p6), .val (.int (2 : Int32)), .val (.int src), .val (.int old), .val (.ref b1), .val (.ref b13)] [(.int (2 : Int32)), (.int (2 : Int32))])
    refine own_icmp X357 hx 233 (hb hby at_208) (by decide) (by decide) (fun hc => absurd (show (2 : Int32) = (2 : Int32) from by decide) (by first | exact hc | exact not_not_intro hc)) (fun _ => ?_)
    show own_Go p e below _ T357 (mkF m 211 #[.val (.int p1), .val (.int p2), .val (.int p3), .val (.int p4), .val (.int p5), .val (.int p6), .val (.int (2 : Int32)), .val (.int src), .val (.int old), .val (.ref b1), .val (.ref b13)] [])
    refine own_by (fun t_ k_ => XS.aload X357.here hx rfl (hb hby at_211) rfl rfl k_) ?_
    show own_Go p e below _ T357 (mkF m 213 #[.val (.int p1), .val (.int p2), .val (.int p3), .val (.int p4), .val (.int p5), .val (.int p6), .val (.int (2 : Int32)), .val (.int src), .val (.int old), .val (.ref b1), .val (.ref b13)] [(.ref b1)])
    have F12_360 : Fld Z T352.heap b1 "com/example/wayfold/wayfold/engine/DayTiming$Timeline" "nodes" "[I" (.ref b12_0) := (Fld.keep F12_333 K352 (ninS (Nat.ne_of_lt lt_b1_b13) (ninS n75 (ninS n98 (ninS n111 (ninS n124 (ninS n137 (ninS n150 (ninS n163 (ninS n176 (ninS n189 nin0)))))))))))
    refine own_getF X357 hx hZ hown (own_w hw 33 rfl) Via.refl e357 F12_360 (hb hby at_213) ?_
    intro T359 X359 e359
    show own_Go p e below _ T359 (mkF m 216 #[.val (.int p1), .val (.int p2), .val (.int p3), .val (.int p4), .val (.int p5), .val (.int p6), .val (.int (2 : Int32)), .val (.int src), .val (.int old), .val (.ref b1), .val (.ref b13)] [(.ref b12_0)])
    refine own_by (fun t_ k_ => XS.iconst X359.here hx rfl (hb hby at_216) k_) ?_
    show own_Go p e below _ T359 (mkF m 217 #[.val (.int p1), .val (.int p2), .val (.int p3), .val (.int p4), .val (.int p5), .val (.int p6), .val (.int (2 : Int32)), .val (.int src), .val (.int old), .val (.ref b1), .val (.ref b13)] [(.int (0 : Int32)), (.ref b12_0)])
    have V35_361 : own_Arr Z T352.heap b12_0 .int [(.int p2), (.int p3)] := (own_Arr.keep V35_343 K352 (ninS (Nat.ne_of_lt lt_b12_0_b13) (ninS n76 (ninS n99 (ninS n112 (ninS n125 (ninS n138 (ninS n151 (ninS n164 (ninS n177 (ninS n190 nin0)))))))))))
    refine own_iaload X359 hx hZ e359 V35_361 (v := (.int p2)) 0 (by decide) rfl (hb hby at_217) ?_
    show own_Go p e below _ T359 (mkF m 218 #[.val (.int p1), .val (.int p2), .val (.int p3), .val (.int p4), .val (.int p5), .val (.int p6), .val (.int (2 : Int32)), .val (.int src), .val (.int old), .val (.ref b1), .val (.ref b13)] [(.int p2)])
    refine own_by (fun t_ k_ => XS.iloadN X359.here hx rfl (hb hby at_218) rfl k_) ?_
    show own_Go p e below _ T359 (mkF m 219 #[.val (.int p1), .val (.int p2), .val (.int p3), .val (.int p4), .val (.int p5), .val (.int p6), .val (.int (2 : Int32)), .val (.int src), .val (.int old), .val (.ref b1), .val (.ref b13)] [(.int p2), (.int p2)])
    refine own_icmp X359 hx 233 (hb hby at_219) (by decide) (by decide) (fun hc => absurd (show p2 = p2 from rfl) (by first | exact hc | exact not_not_intro hc)) (fun _ => ?_)
    show own_Go p e below _ T359 (mkF m 222 #[.val (.int p1), .val (.int p2), .val (.int p3), .val (.int p4), .val (.int p5), .val (.int p6), .val (.int (2 : Int32)), .val (.int src), .val (.int old), .val (.ref b1), .val (.ref b13)] [])
    refine own_by (fun t_ k_ => XS.aload X359.here hx rfl (hb hby at_222) rfl rfl k_) ?_
    show own_Go p e below _ T359 (mkF m 224 #[.val (.int p1), .val (.int p2), .val (.int p3), .val (.int p4), .val (.int p5), .val (.int p6), .val (.int (2 : Int32)), .val (.int src), .val (.int old), .val (.ref b1), .val (.ref b13)] [(.ref b1)])
    refine own_getF X359 hx hZ hown (own_w hw 33 rfl) Via.refl e359 F12_360 (hb hby at_224) ?_
    intro T362 X362 e362
    show own_Go p e below _ T362 (mkF m 227 #[.val (.int p1), .val (.int p2), .val (.int p3), .val (.int p4), .val (.int p5), .val (.int p6), .val (.int (2 : Int32)), .val (.int src), .val (.int old), .val (.ref b1), .val (.ref b13)] [(.ref b12_0)])
    refine own_by (fun t_ k_ => XS.iconst X362.here hx rfl (hb hby at_227) k_) ?_
    show own_Go p e below _ T362 (mkF m 228 #[.val (.int p1), .val (.int p2), .val (.int p3), .val (.int p4), .val (.int p5), .val (.int p6), .val (.int (2 : Int32)), .val (.int src), .val (.int old), .val (.ref b1), .val (.ref b13)] [(.int (1 : Int32)), (.ref b12_0)])
    refine own_iaload X362 hx hZ e362 V35_361 (v := (.int p3)) 1 (by decide) rfl (hb hby at_228) ?_
    show own_Go p e below _ T362 (mkF m 229 #[.val (.int p1), .val (.int p2), .val (.int p3), .val (.int p4), .val (.int p5), .val (.int p6), .val (.int (2 : Int32)), .val (.int src), .val (.int old), .val (.ref b1), .val (.ref b13)] [(.int p3)])
    refine own_by (fun t_ k_ => XS.iloadN X362.here hx rfl (hb hby at_229) rfl k_) ?_
    show own_Go p e below _ T362 (mkF m 230 #[.val (.int p1), .val (.int p2), .val (.int p3), .val (.int p4), .val (.int p5), .val (.int p6), .val (.int (2 : Int32)), .val (.int src), .val (.int old), .val (.ref b1), .val (.ref b13)] [(.int p3), (.int p3)])
    refine own_icmp X362 hx 235 (hb hby at_230) (by decide) (by decide) (fun _ => ?_) (fun hc => absurd (show p3 = p3 from rfl) (by first | exact hc | exact not_not_intro hc))
    show own_Go p e below _ T362 (mkF m 235 #[.val (.int p1), .val (.int p2), .val (.int p3), .val (.int p4), .val (.int p5), .val (.int p6), .val (.int (2 : Int32)), .val (.int src), .val (.int old), .val (.ref b1), .val (.ref b13)] [])
    refine own_by (fun t_ k_ => XS.aload X362.here hx rfl (hb hby at_235) rfl rfl k_) ?_
    show own_Go p e below _ T362 (mkF m 237 #[.val (.int p1), .val (.int p2), .val (.int p3), .val (.int p4), .val (.int p5), .val (.int p6), .val (.int (2 : Int32)), .val (.int src), .val (.int old), .val (.ref b1), .val (.ref b13)] [(.ref b1)])
    refine own_by (fun t_ k_ => XS.iload X362.here hx rfl (hb hby at_237) rfl k_) ?_
    show own_Go p e below _ T362 (mkF m 239 #[.val (.int p1), .val (.int p2), .val (.int p3), .val (.int p4), .val (.int p5), .val (.int p6), .val (.int (2 : Int32)), .val (.int src), .val (.int old), .val (.ref b1), .val (.ref b13)] [(.int src), (.ref b1)])
    refine own_by (fun t_ k_ => XS.iload X362.here hx rfl (hb hby at_239) rfl k_) ?_
    show own_Go p e below _ T362 (mkF m 241 #[.val (.int p1), .val (.int p2), .val (.int p3), .val (.int p4), .val (.int p5), .val (.int p6), .val (.int (2 : Int32)), .val (.int src), .val (.int old), .val (.ref b1), .val (.ref b13)] [(.int src), (.int src), (.ref b1)])
    refine own_by (fun t_ k_ => XS.iconst X362.here hx rfl (hb hby at_241) k_) ?_
    show own_Go p e below _ T362 (mkF m 242 #[.val (.int p1), .val (.int p2), .val (.int p3), .val (.int p4), .val (.int p5), .val (.int p6), .val (.int (2 : Int32)), .val (.int src), .val (.int old), .val (.ref b1), .val (.ref b13)] [(.int (2 : Int32)), (.int src), (.int src), (.ref b1)])
    have F12_363 : Fld Z T352.heap b1 "com/example/wayfold/wayfold/engine/DayTiming$Timeline" "leave" "[D" (.ref b12_1) := (Fld.keep F12_334 K352 (ninS (Nat.ne_of_lt lt_b1_b13) (ninS n75 (ninS n98 (ninS n111 (ninS n124 (ninS n137 (ninS n150 (ninS n163 (ninS n176 (ninS n189 nin0)))))))))))
    have F12_364 : Fld Z T352.heap b1 "com/example/wayfold/wayfold/engine/DayTiming$Timeline" "interest" "[D" (.ref b12_2) := (Fld.keep F12_335 K352 (ninS (Nat.ne_of_lt lt_b1_b13) (ninS n75 (ninS n98 (ninS n111 (ninS n124 (ninS n137 (ninS n150 (ninS n163 (ninS n176 (ninS n189 nin0)))))))))))
    have F12_365 : Fld Z T352.heap b1 "com/example/wayfold/wayfold/engine/DayTiming$Timeline" "travel" "[D" (.ref b12_3) := (Fld.keep F12_336 K352 (ninS (Nat.ne_of_lt lt_b1_b13) (ninS n75 (ninS n98 (ninS n111 (ninS n124 (ninS n137 (ninS n150 (ninS n163 (ninS n176 (ninS n189 nin0)))))))))))
    have F12_366 : Fld Z T352.heap b1 "com/example/wayfold/wayfold/engine/DayTiming$Timeline" "visit" "[D" (.ref b12_4) := (Fld.keep F12_337 K352 (ninS (Nat.ne_of_lt lt_b1_b13) (ninS n75 (ninS n98 (ninS n111 (ninS n124 (ninS n137 (ninS n150 (ninS n163 (ninS n176 (ninS n189 nin0)))))))))))
    have F12_367 : Fld Z T352.heap b1 "com/example/wayfold/wayfold/engine/DayTiming$Timeline" "waiting" "[D" (.ref b12_5) := (Fld.keep F12_338 K352 (ninS (Nat.ne_of_lt lt_b1_b13) (ninS n75 (ninS n98 (ninS n111 (ninS n124 (ninS n137 (ninS n150 (ninS n163 (ninS n176 (ninS n189 nin0)))))))))))
    have F12_368 : Fld Z T352.heap b1 "com/example/wayfold/wayfold/engine/DayTiming$Timeline" "load" "[D" (.ref b12_6) := (Fld.keep F12_339 K352 (ninS (Nat.ne_of_lt lt_b1_b13) (ninS n75 (ninS n98 (ninS n111 (ninS n124 (ninS n137 (ninS n150 (ninS n163 (ninS n176 (ninS n189 nin0)))))))))))
    have F12_369 : Fld Z T352.heap b1 "com/example/wayfold/wayfold/engine/DayTiming$Timeline" "latest" "[D" (.ref b12_7) := (Fld.keep F12_340 K352 (ninS (Nat.ne_of_lt lt_b1_b13) (ninS n75 (ninS n98 (ninS n111 (ninS n124 (ninS n137 (ninS n150 (ninS n163 (ninS n176 (ninS n189 nin0)))))))))))
    have F12_370 : Fld Z T352.heap b1 "com/example/wayfold/wayfold/engine/DayTiming$Timeline" "best" "[D" (.ref b12_8) := (Fld.keep F12_341 K352 (ninS (Nat.ne_of_lt lt_b1_b13) (ninS n75 (ninS n98 (ninS n111 (ninS n124 (ninS n137 (ninS n150 (ninS n163 (ninS n176 (ninS n189 nin0)))))))))))
    have V68_371 : own_Arr Z T352.heap b12_1 .double [(.double (FP.i2d src)), (.double (FP.i2d (src + 1))), (.double (FP.i2d (src + 2)))] := (own_Arr.keep V68_344 K352 (ninS (Nat.ne_of_lt lt_b12_1_b13) (ninS n84 (ninS n107 (ninS n120 (ninS n133 (ninS n146 (ninS n159 (ninS n172 (ninS n185 (ninS n198 nin0)))))))))))
    have V68_372 : own_Arr Z T352.heap b12_2 .double [(.double (FP.i2d (src + (3 : Int32)))), (.double (FP.i2d ((src + (3 : Int32)) + 1))), (.double (FP.i2d ((src + (3 : Int32)) + 2)))] := (own_Arr.keep V68_345 K352 (ninS (Nat.ne_of_lt lt_b12_2_b13) (ninS n83 (ninS n106 (ninS n119 (ninS n132 (ninS n145 (ninS n158 (ninS n171 (ninS n184 (ninS n197 nin0)))))))))))
    have V68_373 : own_Arr Z T352.heap b12_3 .double [(.double (FP.i2d (src + ((2 : Int32) * (3 : Int32))))), (.double (FP.i2d ((src + ((2 : Int32) * (3 : Int32))) + 1))), (.double (FP.i2d ((src + ((2 : Int32) * (3 : Int32))) + 2)))] := (own_Arr.keep V68_346 K352 (ninS (Nat.ne_of_lt lt_b12_3_b13) (ninS n82 (ninS n105 (ninS n118 (ninS n131 (ninS n144 (ninS n157 (ninS n170 (ninS n183 (ninS n196 nin0)))))))))))
    have V68_374 : own_Arr Z T352.heap b12_4 .double [(.double (FP.i2d (src + ((3 : Int32) * (3 : Int32))))), (.double (FP.i2d ((src + ((3 : Int32) * (3 : Int32))) + 1))), (.double (FP.i2d ((src + ((3 : Int32) * (3 : Int32))) + 2)))] := (own_Arr.keep V68_347 K352 (ninS (Nat.ne_of_lt lt_b12_4_b13) (ninS n81 (ninS n104 (ninS n117 (ninS n130 (ninS n143 (ninS n156 (ninS n169 (ninS n182 (ninS n195 nin0)))))))))))
    have V68_375 : own_Arr Z T352.heap b12_5 .double [(.double (FP.i2d (src + ((4 : Int32) * (3 : Int32))))), (.double (FP.i2d ((src + ((4 : Int32) * (3 : Int32))) + 1))), (.double (FP.i2d ((src + ((4 : Int32) * (3 : Int32))) + 2)))] := (own_Arr.keep V68_348 K352 (ninS (Nat.ne_of_lt lt_b12_5_b13) (ninS n80 (ninS n103 (ninS n116 (ninS n129 (ninS n142 (ninS n155 (ninS n168 (ninS n181 (ninS n194 nin0)))))))))))
    have V68_376 : own_Arr Z T352.heap b12_6 .double [(.double (FP.i2d (src + ((5 : Int32) * (3 : Int32))))), (.double (FP.i2d ((src + ((5 : Int32) * (3 : Int32))) + 1))), (.double (FP.i2d ((src + ((5 : Int32) * (3 : Int32))) + 2)))] := (own_Arr.keep V68_349 K352 (ninS (Nat.ne_of_lt lt_b12_6_b13) (ninS n79 (ninS n102 (ninS n115 (ninS n128 (ninS n141 (ninS n154 (ninS n167 (ninS n180 (ninS n193 nin0)))))))))))
    have V68_377 : own_Arr Z T352.heap b12_7 .double [(.double (FP.i2d (src + ((6 : Int32) * (3 : Int32))))), (.double (FP.i2d ((src + ((6 : Int32) * (3 : Int32))) + 1))), (.double (FP.i2d ((src + ((6 : Int32) * (3 : Int32))) + 2)))] := (own_Arr.keep V68_350 K352 (ninS (Nat.ne_of_lt lt_b12_7_b13) (ninS n78 (ninS n101 (ninS n114 (ninS n127 (ninS n140 (ninS n153 (ninS n166 (ninS n179 (ninS n192 nin0)))))))))))
    have V68_378 : own_Arr Z T352.heap b12_8 .double [(.double (FP.i2d (src + ((7 : Int32) * (3 : Int32))))), (.double (FP.i2d ((src + ((7 : Int32) * (3 : Int32))) + 1))), (.double (FP.i2d ((src + ((7 : Int32) * (3 : Int32))) + 2)))] := (own_Arr.keep V68_351 K352 (ninS (Nat.ne_of_lt lt_b12_8_b13) (ninS n77 (ninS n100 (ninS n113 (ninS n126 (ninS n139 (ninS n152 (ninS n165 (ninS n178 (ninS n191 nin0)))))))))))
    refine own_callS (W := 0) X362 hx hZ (y := (⟨"com/example/wayfold/wayfold/engine/TimelineCopyPinLaw", "okAll", "(Lcom/example/wayfold/wayfold/engine/DayTiming$Timeline;III)Z"⟩ : MethodName)) hown (own_w hw 59 rfl) (own_w hw 60 rfl) (own_w hw 36 rfl) (own_w hw 61 rfl) (by decide) (by rw [hml]; rfl) (argsL := [(.ref b1), (.int src), (.int src), (.int (2 : Int32))]) pd_6 rfl (rm6 l Z a0 hw [] b1 src src (2 : Int32) b12_1 b12_2 b12_3 b12_4 b12_5 b12_6 b12_7 b12_8 src (src + 1) (src + 2) (src + (3 : Int32)) ((src + (3 : Int32)) + 1) ((src + (3 : Int32)) + 2) (src + ((2 : Int32) * (3 : Int32))) ((src + ((2 : Int32) * (3 : Int32))) + 1) ((src + ((2 : Int32) * (3 : Int32))) + 2) (src + ((3 : Int32) * (3 : Int32))) ((src + ((3 : Int32) * (3 : Int32))) + 1) ((src + ((3 : Int32) * (3 : Int32))) + 2) (src + ((4 : Int32) * (3 : Int32))) ((src + ((4 : Int32) * (3 : Int32))) + 1) ((src + ((4 : Int32) * (3 : Int32))) + 2) (src + ((5 : Int32) * (3 : Int32))) ((src + ((5 : Int32) * (3 : Int32))) + 1) ((src + ((5 : Int32) * (3 : Int32))) + 2) (src + ((6 : Int32) * (3 : Int32))) ((src + ((6 : Int32) * (3 : Int32))) + 1) ((src + ((6 : Int32) * (3 : Int32))) + 2) (src + ((7 : Int32) * (3 : Int32))) ((src + ((7 : Int32) * (3 : Int32))) + 1) ((src + ((7 : Int32) * (3 : Int32))) + 2) T352.heap n0 sz352 F12_363 F12_364 F12_365 F12_366 F12_367 F12_368 F12_369 F12_370 V68_371 V68_372 V68_373 V68_374 V68_375 V68_376 V68_377 V68_378 (rfl : src = src) ((congrArg (· + 1) (rfl : src = src)).trans (if_neg (by decide)).symm) ((congrArg (· + 2) (rfl : src = src)).trans (if_neg (by decide)).symm) (own_s1 src) ((congrArg (· + 1) (own_s1 src)).trans (if_neg (by decide)).symm) ((congrArg (· + 2) (own_s1 src)).trans (if_neg (by decide)).symm) (own_s2 src) ((congrArg (· + 1) (own_s2 src)).trans (if_neg (by decide)).symm) ((congrArg (· + 2) (own_s2 src)).trans (if_neg (by decide)).symm) (own_s3 src) ((congrArg (· + 1) (own_s3 src)).trans (if_neg (by decide)).symm) ((congrArg (· + 2) (own_s3 src)).trans (if_neg (by decide)).symm) (own_s4 src) ((congrArg (· + 1) (own_s4 src)).trans (if_neg (by decide)).symm) ((congrArg (· + 2) (own_s4 src)).trans (if_neg (by decide)).symm) (own_s5 src) ((congrArg (· + 1) (own_s5 src)).trans (if_neg (by decide)).symm) ((congrArg (· + 2) (own_s5 src)).trans (if_neg (by decide)).symm) (own_s6 src) ((congrArg (· + 1) (own_s6 src)).trans (if_neg (by decide)).symm) ((congrArg (· + 2) (own_s6 src)).trans (if_neg (by decide)).symm) (own_s7 src) ((congrArg (· + 1) (own_s7 src)).trans (if_neg (by decide)).symm) ((congrArg (· + 2) (own_s7 src)).trans (if_neg (by decide)).symm)) (by decide) (by decide) (Nat.le_of_eq rfl) (by decide) (by decide) (rest := []) e362 rfl (hb hby at_242) ?_
    intro v379 T379 L379 X379 hQ379
    obtain ⟨rfl, N379q, e379⟩ := hQ379
    have N379 := Fr.app N356 N379q
    show own_Go p e below _ T379 (mkF m 245 #[.val (.int p1), .val (.int p2), .val (.int p3), .val (.int p4), .val (.int p5), .val (.int p6), .val (.int (2 : Int32)), .val (.int src), .val (.int old), .val (.ref b1), .val (.ref b13)] [(.int (1 : Int32))])
    refine own_retZ X379 hx hlk Bd.returns (by decide) (hb hby at_245) e379 (by decide) (by decide) ?_
    exact ⟨rfl, N379⟩
set_option maxRecDepth 65536 in
set_option maxHeartbeats 40000000 in
theorem comes_1 {Post : Tables → Env → Array Value → State → Outcome → State → Prop} (hpost : ∀ tb e args s v u, (limb_1_1.after args s (.returned v) u = true ∧ limb_1_2.after args s (.returned v) u = true ∧ True) → FrameEnd s (.returned v) u (Jvm.fieldLocs frame_1_writes args s ++ Jvm.arrayLocs frame_1_arrays args s ++ Jvm.staticLocs frame_1_statics s) 48 256 → Post tb e args s (.returned v) u) :
    ArmFor flags0 classFile x code maxLocals ret World_1 tables_1 room_1 Calls_1 rest_1 Pre_1 Post := by
  intro l hfl _ _ p e ha hc hk s m args below hf hA hF happ hP
  obtain ⟨hcalls, hrest, hpre⟩ := hP
  obtain ⟨-, -, -, hnamed, -, -, -, hat⟩ := (Spec.applies_iff hf).mp happ
  obtain ⟨hg, hn⟩ := and_e (Cond.before_iff.mp (show (Jvm.Cond.and given_1 narrow_1).before args s = true from hpre))
  obtain ⟨gc, gr0⟩ := and_e hg
  obtain ⟨ga0, gr1⟩ := and_e gr0
  obtain ⟨ga1, gr2⟩ := and_e gr1
  obtain ⟨ga2, gr3⟩ := and_e gr2
  obtain ⟨ga3, gr4⟩ := and_e gr3
  obtain ⟨ga4, gr5⟩ := and_e gr4
  obtain ⟨w0, w1, w2, w3, w4, w5, rfl⟩ : ∃ w0 w1 w2 w3 w4 w5 : Value, args = #[w0, w1, w2, w3, w4, w5] := by
    have hs : args.size = 6 := by simpa [Cond.value, given_1] using gc
    obtain ⟨L⟩ := args
    match L, hs with
    | [w0, w1, w2, w3, w4, w5], _ => exact ⟨w0, w1, w2, w3, w4, w5, rfl⟩
  have hw := fun d (hd : d ∈ tables_1) => atoms_spec (ws := Jvm.Cond.code x code maxLocals ret :: tables_1) hat d (List.mem_cons_of_mem _ hd)
  have hfit : Fit s := fun {y c} hc i hi => by
    obtain ⟨ha, rfl⟩ := Array.getElem?_eq_some_iff.mp hc
    have q := List.all_eq_true.mp ((Array.all_eq_true_iff_forall_mem.mp hF) _ (Array.getElem_mem ha)) i (List.mem_range.mpr hi)
    simpa [Array.getElem?_eq_getElem hi] using q
  obtain ⟨i0, ei0⟩ := is_v ga0
  obtain rfl : w0 = (.int i0) := Option.some.inj ei0
  obtain ⟨i1, ei1⟩ := is_v ga1
  obtain rfl : w1 = (.int i1) := Option.some.inj ei1
  obtain ⟨i2, ei2⟩ := is_v ga2
  obtain rfl : w2 = (.int i2) := Option.some.inj ei2
  obtain ⟨i3, ei3⟩ := is_v ga3
  obtain rfl : w3 = (.int i3) := Option.some.inj ei3
  obtain ⟨i4, ei4⟩ := is_v ga4
  obtain rfl : w4 = (.int i4) := Option.some.inj ei4
  obtain ⟨i5, ei5⟩ := is_v gr5
  obtain rfl : w5 = (.int i5) := Option.some.inj ei5
  obtain ⟨n, o, h1, h2, h3, _, L, rfl, ⟨rfl, N⟩, hq⟩ := rm0 l s _ hw tables_1 i0 i1 i2 i3 i4 i5 s.heap s.heap.size (Nat.le_refl _) p e ha hc hk s m _ below hf ((Spec.applies_iff_loose hf).mp happ).1 ⟨rfl, State.Warmed39.refl s, rfl⟩ trivial
  refine ⟨n, _, h1, h2, h3, hpost _ _ _ _ _ _ ⟨Cond.after_iff.mpr rfl, Cond.after_iff.mpr (eq_i res_at (Term.int_eval (1)) rfl), trivial⟩ ⟨hq.1, hq.2.1, (hq.2.2.sift fun y hy => Or.inr (N y hy)).mono (by decide) (by decide)⟩⟩
theorem main_1_1 : Claimed_1_1 := comes_1 fun _ _ _ _ _ _ h hF => ⟨h.1, hF⟩
theorem main_1_2 : Claimed_1_2 := comes_1 fun _ _ _ _ _ _ h hF => ⟨h.2.1, hF⟩
end Jvm.Pilot.@@N@@
namespace Jvm.Pilot.@@N@@
open Jvm Jvm.ClassFile Sem Op Lib Jvm.Free Jvm.Stand Jvm.Pilot.@@N@@.Jvm.D
/-! MADE BY PROGRAM (witnessworld.py) out of the Statement's table words and the real class files: 10 classes; the members and pool entries that the words name. The judged class is class 1, her method 5. -/
namespace start1
open Jvm.ClassFile
def u (s : String) : CpInfo := .utf8 (stringToUtf16 s)
/-- a pool by its gaps: so many unusable entries, then the entry; so many at the end -/
def gap : Nat → List CpInfo → List CpInfo
  | 0, r => r
  | n + 1, r => .unusable :: gap n r
def poolList (es : List (Nat × CpInfo)) (last : Nat) : List CpInfo := es.foldr (fun e r => gap e.1 (e.2 :: r)) (gap last [])
def pool (es : List (Nat × CpInfo)) (last : Nat) : Array CpInfo := ⟨poolList es last⟩
def fileOf (pool : Array CpInfo) (this : Nat) (attrs : Array Attribute := #[]) (ms : Array MethodInfo := #[]) (fl : Nat := 33) (sup : Nat := 0) (ifs : Array Nat := #[]) (fds : Array FieldInfo := #[]) : ClassFile where
  minorVersion := 0
  majorVersion := 65
  constantPool := pool
  accessFlags := fl
  thisClass := this
  superClass := sup
  interfaces := ifs
  fields := fds
  methods := ms
  attributes := attrs
def plain (name : String) (sup : Option ClassId) : Class where
  name := name
  kind := .ordinary
  loader := none
  accessFlags := 33
  super := sup
  interfaces := #[]
  cf := none
  fields := #[]
  methods := #[]
  instanceTypes := #[]
  staticTypes := #[]
  resolved := #[]
  callSites := []
  init := .initialized
  statics := none
  mirror := none

def pool0 : Array CpInfo := pool [(5, u "<init>"), (0, u "()V"), (1, .class_ 10), (1, u "java/lang/Object")] 113

def k0c0 : Code := { maxStack := 0, maxLocals := 1, code := object_method_1_code, exceptionTable := #[], attributes := #[] }
def k0m0 : Method := { name := "<init>", desc := "()V", sig := { parameters := [], returnType := none }, accessFlags := 1, code := some k0c0 }
/-- java/lang/Object -/
def k0 : Class := { plain "java/lang/Object" none with
  accessFlags := 33
  interfaces := #[]
  cf := some (fileOf pool0 8 #[] #[{ accessFlags := 1, nameIndex := 5, descriptorIndex := 6, attributes := #[] }] 33 0 #[] #[])
  fields := #[]
  methods := #[k0m0]
  instanceTypes := #[]
  staticTypes := #[]
  resolved := Array.replicate 124 none
  statics := none }

def pool1 : Array CpInfo := pool [(2, .class_ 4), (1, u "java/lang/Object"), (0, u "<init>"), (0, u "()V"), (0, .fieldref 8 9), (0, .class_ 10), (0, .nameAndType 11 12), (0, u "com/example/wayfold/wayfold/engine/DayTiming$Timeline"), (0, u "leave"), (0, u "[D"), (0, .methodref 14 15), (0, .class_ 16), (0, .nameAndType 17 18), (0, u "com/example/wayfold/wayfold/engine/TimelineCopyPinLaw"), (0, u "fill"), (0, u "([DI)V"), (0, .fieldref 8 20), (0, .nameAndType 21 12), (0, u "interest"), (0, .fieldref 8 23), (0, .nameAndType 24 12), (0, u "travel"), (0, .fieldref 8 26), (0, .nameAndType 27 12), (0, u "visit"), (0, .fieldref 8 29), (0, .nameAndType 30 12), (0, u "waiting"), (0, .fieldref 8 32), (0, .nameAndType 33 12), (0, u "load"), (0, .fieldref 8 35), (0, .nameAndType 36 12), (0, u "latest"), (0, .fieldref 8 38), (0, .nameAndType 39 12), (0, u "best"), (0, .methodref 14 41), (0, .nameAndType 42 43), (0, u "ok"), (0, u "([DIII)Z"), (0, .integer 2147483647), (0, .integer 65535), (0, .methodref 8 47), (0, .nameAndType 5 48), (0, u "(I)V"), (0, .fieldref 8 50), (0, .nameAndType 51 52), (0, u "length"), (0, u "I"), (0, .fieldref 8 54), (0, .nameAndType 55 56), (0, u "nodes"), (0, u "[I"), (0, .methodref 14 58), (0, .nameAndType 59 60), (0, u "fillAll"), (0, u "(Lcom/example/wayfold/wayfold/engine/DayTiming$Timeline;II)V"), (0, .methodref 8 62), (0, .nameAndType 63 64), (0, u "copy"), (0, u "(Lcom/example/wayfold/wayfold/engine/DayTiming$Timeline;)V"), (0, .methodref 14 66), (0, .nameAndType 67 68), (0, u "okAll"), (0, u "(Lcom/example/wayfold/wayfold/engine/DayTiming$Timeline;III)Z"), (3, u "law"), (0, u "(IIIIII)Z")] 6

def k1m0 : Method := { name := "<init>", desc := "()V", sig := { parameters := [], returnType := none }, accessFlags := 1, code := none }
def k1c1 : Code := { maxStack := 4, maxLocals := 2, code := method_2_code, exceptionTable := #[], attributes := #[] }
def k1m1 : Method := { name := "fill", desc := "([DI)V", sig := { parameters := [(.array .double), .int], returnType := none }, accessFlags := 10, code := some k1c1 }
def k1c2 : Code := { maxStack := 4, maxLocals := 3, code := method_3_code, exceptionTable := #[], attributes := #[] }
def k1m2 : Method := { name := "fillAll", desc := "(Lcom/example/wayfold/wayfold/engine/DayTiming$Timeline;II)V", sig := { parameters := [(.object "com/example/wayfold/wayfold/engine/DayTiming$Timeline"), .int, .int], returnType := none }, accessFlags := 10, code := some k1c2 }
def k1c3 : Code := { maxStack := 4, maxLocals := 4, code := method_4_code, exceptionTable := #[], attributes := #[] }
def k1m3 : Method := { name := "ok", desc := "([DIII)Z", sig := { parameters := [(.array .double), .int, .int, .int], returnType := some .boolean }, accessFlags := 10, code := some k1c3 }
def k1c4 : Code := { maxStack := 4, maxLocals := 4, code := method_5_code, exceptionTable := #[], attributes := #[] }
def k1m4 : Method := { name := "okAll", desc := "(Lcom/example/wayfold/wayfold/engine/DayTiming$Timeline;III)Z", sig := { parameters := [(.object "com/example/wayfold/wayfold/engine/DayTiming$Timeline"), .int, .int, .int], returnType := some .boolean }, accessFlags := 10, code := some k1c4 }
def k1c5 : Code := { maxStack := 4, maxLocals := 11, code := code, exceptionTable := #[], attributes := #[] }
def k1m5 : Method := { name := "law", desc := "(IIIIII)Z", sig := { parameters := [.int, .int, .int, .int, .int, .int], returnType := some .boolean }, accessFlags := 9, code := some k1c5 }
/-- com/example/wayfold/wayfold/engine/TimelineCopyPinLaw -/
def k1 : Class := { plain "com/example/wayfold/wayfold/engine/TimelineCopyPinLaw" (some 0) with
  accessFlags := 49
  interfaces := #[]
  cf := some (fileOf pool1 14 #[] #[{ accessFlags := 1, nameIndex := 5, descriptorIndex := 6, attributes := #[] }, { accessFlags := 10, nameIndex := 17, descriptorIndex := 18, attributes := #[] }, { accessFlags := 10, nameIndex := 59, descriptorIndex := 60, attributes := #[] }, { accessFlags := 10, nameIndex := 42, descriptorIndex := 43, attributes := #[] }, { accessFlags := 10, nameIndex := 67, descriptorIndex := 68, attributes := #[] }, { accessFlags := 9, nameIndex := 72, descriptorIndex := 73, attributes := #[] }] 49 2 #[] #[])
  fields := #[]
  methods := #[k1m0, k1m1, k1m2, k1m3, k1m4, k1m5]
  instanceTypes := #[]
  staticTypes := #[]
  resolved := Array.replicate 80 none
  statics := none }

def pool2 : Array CpInfo := pool [(1, .methodref 2 3), (0, .class_ 4), (0, .nameAndType 5 6), (0, u "java/lang/Object"), (0, u "<init>"), (0, u "()V"), (0, .fieldref 8 9), (0, .class_ 10), (0, .nameAndType 11 12), (0, u "com/example/wayfold/wayfold/engine/DayTiming$Timeline"), (0, u "nodes"), (0, u "[I"), (0, .fieldref 8 14), (0, .nameAndType 15 16), (0, u "leave"), (0, u "[D"), (0, .fieldref 8 18), (0, .nameAndType 19 16), (0, u "interest"), (0, .fieldref 8 21), (0, .nameAndType 22 16), (0, u "travel"), (0, .fieldref 8 24), (0, .nameAndType 25 16), (0, u "visit"), (0, .fieldref 8 27), (0, .nameAndType 28 16), (0, u "waiting"), (0, .fieldref 8 30), (0, .nameAndType 31 16), (0, u "load"), (0, .fieldref 8 33), (0, .nameAndType 34 16), (0, u "latest"), (0, .fieldref 8 36), (0, .nameAndType 37 16), (0, u "best"), (0, .fieldref 8 39), (0, .nameAndType 40 41), (0, u "length"), (0, u "I"), (0, .methodref 43 44), (0, .class_ 45), (0, .nameAndType 46 47), (0, u "java/lang/System"), (0, u "arraycopy"), (0, u "(Ljava/lang/Object;ILjava/lang/Object;II)V"), (6, u "(I)V"), (2, u "copy"), (0, u "(Lcom/example/wayfold/wayfold/engine/DayTiming$Timeline;)V"), (8, .class_ 68), (0, u "com/example/wayfold/wayfold/engine/DayTiming")] 2

def k2c0 : Code := { maxStack := 3, maxLocals := 2, code := prog_4_method_1_code, exceptionTable := #[], attributes := #[] }
def k2m0 : Method := { name := "<init>", desc := "(I)V", sig := { parameters := [.int], returnType := none }, accessFlags := 0, code := some k2c0 }
def k2c1 : Code := { maxStack := 6, maxLocals := 2, code := prog_4_method_2_code, exceptionTable := #[], attributes := #[] }
def k2m1 : Method := { name := "copy", desc := "(Lcom/example/wayfold/wayfold/engine/DayTiming$Timeline;)V", sig := { parameters := [(.object "com/example/wayfold/wayfold/engine/DayTiming$Timeline")], returnType := none }, accessFlags := 0, code := some k2c1 }
/-- com/example/wayfold/wayfold/engine/DayTiming$Timeline -/
def k2 : Class := { plain "com/example/wayfold/wayfold/engine/DayTiming$Timeline" (some 0) with
  accessFlags := 48
  interfaces := #[]
  cf := some (fileOf pool2 8 #[.nestHost 67] #[{ accessFlags := 0, nameIndex := 5, descriptorIndex := 54, attributes := #[] }, { accessFlags := 0, nameIndex := 57, descriptorIndex := 58, attributes := #[] }] 48 2 #[] #[{ accessFlags := 16, nameIndex := 11, descriptorIndex := 12, attributes := #[] }, { accessFlags := 0, nameIndex := 40, descriptorIndex := 41, attributes := #[] }, { accessFlags := 16, nameIndex := 15, descriptorIndex := 16, attributes := #[] }, { accessFlags := 16, nameIndex := 19, descriptorIndex := 16, attributes := #[] }, { accessFlags := 16, nameIndex := 22, descriptorIndex := 16, attributes := #[] }, { accessFlags := 16, nameIndex := 25, descriptorIndex := 16, attributes := #[] }, { accessFlags := 16, nameIndex := 28, descriptorIndex := 16, attributes := #[] }, { accessFlags := 16, nameIndex := 31, descriptorIndex := 16, attributes := #[] }, { accessFlags := 16, nameIndex := 34, descriptorIndex := 16, attributes := #[] }, { accessFlags := 16, nameIndex := 37, descriptorIndex := 16, attributes := #[] }])
  fields := #[{ name := "nodes", type := (.array .int), accessFlags := 16, slot := 0, constantValue := 0 }, { name := "length", type := .int, accessFlags := 0, slot := 1, constantValue := 0 }, { name := "leave", type := (.array .double), accessFlags := 16, slot := 2, constantValue := 0 }, { name := "interest", type := (.array .double), accessFlags := 16, slot := 3, constantValue := 0 }, { name := "travel", type := (.array .double), accessFlags := 16, slot := 4, constantValue := 0 }, { name := "visit", type := (.array .double), accessFlags := 16, slot := 5, constantValue := 0 }, { name := "waiting", type := (.array .double), accessFlags := 16, slot := 6, constantValue := 0 }, { name := "load", type := (.array .double), accessFlags := 16, slot := 7, constantValue := 0 }, { name := "latest", type := (.array .double), accessFlags := 16, slot := 8, constantValue := 0 }, { name := "best", type := (.array .double), accessFlags := 16, slot := 9, constantValue := 0 }]
  methods := #[k2m0, k2m1]
  instanceTypes := #[(.array .int), .int, (.array .double), (.array .double), (.array .double), (.array .double), (.array .double), (.array .double), (.array .double), (.array .double)]
  staticTypes := #[]
  resolved := Array.replicate 71 none
  statics := none }

def pool3 : Array CpInfo := pool [(2, .class_ 4), (1, u "java/lang/Object"), (0, u "<init>"), (0, u "()V"), (1, .class_ 10), (1, u "java/lang/System"), (0, u "allowSecurityManager"), (0, u "I"), (16, u "cons"), (0, u "Ljava/io/Console;"), (77, .class_ 110), (1, u "java/lang/System$CallersHolder"), (43, u "initialErrStream"), (0, u "Ljava/io/PrintStream;"), (19, u "security"), (0, u "Ljava/lang/SecurityManager;"), (31, .class_ 209), (0, u "java/lang/System$1"), (7, u "props"), (0, u "Ljava/util/Properties;"), (2, u "lineSeparator"), (0, u "Ljava/lang/String;"), (96, .class_ 321), (1, u "java/lang/System$LoggerFinder"), (5, .class_ 328), (0, u "java/lang/System$Logger"), (67, u "err"), (2, u "out"), (91, u "notSupportedJnuEncoding"), (15, u "in"), (17, u "initialIn"), (0, u "Ljava/io/InputStream;"), (35, u "bootLayer"), (0, u "Ljava/lang/ModuleLayer;"), (99, .class_ 664), (0, u "java/lang/System$2"), (9, u "NEVER"), (2, u "MAYBE"), (49, u "arraycopy"), (0, u "(Ljava/lang/Object;ILjava/lang/Object;II)V"), (72, .class_ 802), (0, u "java/lang/System$Logger$Level")] 31

def k3m0 : Method := { name := "<init>", desc := "()V", sig := { parameters := [], returnType := none }, accessFlags := 2, code := none }
def k3m1 : Method := { name := "arraycopy", desc := "(Ljava/lang/Object;ILjava/lang/Object;II)V", sig := { parameters := [(.object "java/lang/Object"), .int, (.object "java/lang/Object"), .int, .int], returnType := none }, accessFlags := 265, code := none }
/-- java/lang/System -/
def k3 : Class := { plain "java/lang/System" (some 0) with
  accessFlags := 49
  interfaces := #[]
  cf := some (fileOf pool3 8 #[.nestMembers #[319, 327, 801, 108, 663, 208]] #[{ accessFlags := 2, nameIndex := 5, descriptorIndex := 6, attributes := #[] }, { accessFlags := 265, nameIndex := 727, descriptorIndex := 728, attributes := #[] }] 49 2 #[] #[{ accessFlags := 25, nameIndex := 507, descriptorIndex := 526, attributes := #[] }, { accessFlags := 25, nameIndex := 399, descriptorIndex := 155, attributes := #[] }, { accessFlags := 25, nameIndex := 396, descriptorIndex := 155, attributes := #[] }, { accessFlags := 10, nameIndex := 525, descriptorIndex := 526, attributes := #[] }, { accessFlags := 26, nameIndex := 674, descriptorIndex := 12, attributes := #[] }, { accessFlags := 26, nameIndex := 677, descriptorIndex := 12, attributes := #[] }, { accessFlags := 10, nameIndex := 11, descriptorIndex := 12, attributes := #[] }, { accessFlags := 74, nameIndex := 175, descriptorIndex := 176, attributes := #[] }, { accessFlags := 10, nameIndex := 491, descriptorIndex := 222, attributes := #[] }, { accessFlags := 74, nameIndex := 29, descriptorIndex := 30, attributes := #[] }, { accessFlags := 74, nameIndex := 154, descriptorIndex := 155, attributes := #[] }, { accessFlags := 10, nameIndex := 217, descriptorIndex := 218, attributes := #[] }, { accessFlags := 10, nameIndex := 221, descriptorIndex := 222, attributes := #[] }, { accessFlags := 8, nameIndex := 562, descriptorIndex := 563, attributes := #[] }])
  fields := #[{ name := "in", type := (.object "java/io/InputStream"), accessFlags := 25, slot := 0, constantValue := 0 }, { name := "out", type := (.object "java/io/PrintStream"), accessFlags := 25, slot := 1, constantValue := 0 }, { name := "err", type := (.object "java/io/PrintStream"), accessFlags := 25, slot := 2, constantValue := 0 }, { name := "initialIn", type := (.object "java/io/InputStream"), accessFlags := 10, slot := 3, constantValue := 0 }, { name := "NEVER", type := .int, accessFlags := 26, slot := 4, constantValue := 0 }, { name := "MAYBE", type := .int, accessFlags := 26, slot := 5, constantValue := 0 }, { name := "allowSecurityManager", type := .int, accessFlags := 10, slot := 6, constantValue := 0 }, { name := "security", type := (.object "java/lang/SecurityManager"), accessFlags := 74, slot := 7, constantValue := 0 }, { name := "notSupportedJnuEncoding", type := (.object "java/lang/String"), accessFlags := 10, slot := 8, constantValue := 0 }, { name := "cons", type := (.object "java/io/Console"), accessFlags := 74, slot := 9, constantValue := 0 }, { name := "initialErrStream", type := (.object "java/io/PrintStream"), accessFlags := 74, slot := 10, constantValue := 0 }, { name := "props", type := (.object "java/util/Properties"), accessFlags := 10, slot := 11, constantValue := 0 }, { name := "lineSeparator", type := (.object "java/lang/String"), accessFlags := 10, slot := 12, constantValue := 0 }, { name := "bootLayer", type := (.object "java/lang/ModuleLayer"), accessFlags := 8, slot := 13, constantValue := 0 }]
  methods := #[k3m0, k3m1]
  instanceTypes := #[]
  staticTypes := #[(.object "java/io/InputStream"), (.object "java/io/PrintStream"), (.object "java/io/PrintStream"), (.object "java/io/InputStream"), .int, .int, .int, (.object "java/lang/SecurityManager"), (.object "java/lang/String"), (.object "java/io/Console"), (.object "java/io/PrintStream"), (.object "java/util/Properties"), (.object "java/lang/String"), (.object "java/lang/ModuleLayer")]
  resolved := Array.replicate 834 none
  statics := none }

def pool4 : Array CpInfo := pool [(1, u "java/lang/Cloneable"), (0, .class_ 1), (0, u "java/lang/Object"), (0, .class_ 3)] 3

/-- java/lang/Cloneable -/
def k4 : Class := { plain "java/lang/Cloneable" (some 0) with
  accessFlags := 1537
  interfaces := #[]
  cf := some (fileOf pool4 2 #[] #[] 1537 4 #[] #[])
  fields := #[]
  methods := #[]
  instanceTypes := #[]
  staticTypes := #[]
  resolved := Array.replicate 8 none
  statics := none }

def pool5 : Array CpInfo := pool [(1, u "java/io/Serializable"), (0, .class_ 1), (0, u "java/lang/Object"), (0, .class_ 3)] 3

/-- java/io/Serializable -/
def k5 : Class := { plain "java/io/Serializable" (some 0) with
  accessFlags := 1537
  interfaces := #[]
  cf := some (fileOf pool5 2 #[] #[] 1537 4 #[] #[])
  fields := #[]
  methods := #[]
  instanceTypes := #[]
  staticTypes := #[]
  resolved := Array.replicate 8 none
  statics := none }

/-- the primitive byte -/
def k6 : Class := { plain "byte" none with kind := .primitive 'B', accessFlags := 0x411 }
/-- [B -/
def k7 : Class := { plain "[B" (some 0) with kind := .array 6 .byte, interfaces := #[4, 5], accessFlags := 1041 }

/-- the primitive int -/
def k8 : Class := { plain "int" none with kind := .primitive 'I', accessFlags := 0x411 }
/-- [I -/
def k9 : Class := { plain "[I" (some 0) with kind := .array 8 .int, interfaces := #[4, 5], accessFlags := 1041 }

/-- the primitive double -/
def kD : Class := { plain "double" none with kind := .primitive 'D', accessFlags := 0x411 }
/-- [D -/
def kDs : Class := { plain "[D" (some 0) with kind := .array 10 .double, interfaces := #[4, 5], accessFlags := 1041 }

def heap : Heap := #[]
def classes : Array Class := #[k0, k1, k2, k3, k4, k5, k6, k7, k8, k9, kD, kDs]
def interned : List (Array UInt16 × Addr) := []
def slotsUsed : Nat := 0
def theMethod : MethodId := ⟨1, 5⟩
def args0 : Array Value := #[.int 1, .int 2, .int 3, .int 4, .int 5, .int 6]
def aboutOver (below : List Frame) : State where
  vm := { classes := classes, interned := interned.toArray }
  heap := heap
  slotsUsed := slotsUsed
  threads := #[{ frames := .invoking theMethod args0 :: below }]
def below0 : List Frame := [.native { method := ⟨0, 0⟩, args := #[] }]
def about1 : State := aboutOver below0
def p0 : Program := .bare "" "" ""
def e0 : Env := launch0.env 0 0 0
theorem w_frames : about1.frames = Frame.invoking theMethod args0 :: below0 := rfl
set_option maxRecDepth 65536 in
theorem w_args : argsFit about1.vm theMethod args0 = true := by decide +kernel
set_option maxRecDepth 65536 in
theorem w_heap : heapFits about1 = true := by decide +kernel
set_option maxRecDepth 65536 in
theorem w_runnable : about1.curStatus? = some .runnable := by decide +kernel
set_option maxRecDepth 65536 in
theorem w_alone : about1.alone = true := by decide +kernel
set_option maxRecDepth 65536 in
theorem w_named : about1.methodNamed? x = some theMethod := by decide +kernel
set_option maxRecDepth 65536 in
theorem w_hears : about1.hears theMethod below0 = true := by decide +kernel
set_option maxRecDepth 65536 in
theorem w_ripe : about1.ripe theMethod args0 below0 = true := by decide +kernel
theorem w_running : about1.status = .running := rfl
set_option maxRecDepth 65536 in
theorem w_room : about1.hasRoom e0.platform room_1 = true :=
  launch0.hasRoom_least _ room_1 (by decide +kernel) (by decide +kernel) (by decide +kernel) (by decide +kernel) (by decide +kernel) (by decide +kernel)
theorem allAtoms_all (ts : List Jvm.Cond) (a : Array Jvm.Value) (st : Jvm.State) : (allAtoms ts).before a st = ts.all (fun c => c.before a st) := by
  induction ts with
  | nil => rfl
  | cons c t ih =>
    show (Jvm.Cond.and c (allAtoms t)).before a st = _
    rw [Jvm.Cond.before_and, ih, List.all_cons]
def words1 : List Jvm.Cond := Jvm.Cond.code x code maxLocals ret :: tables_1
/-- a 'code' word, met by the world's own term for the bytes: nothing is compared byte by byte -/
theorem code_word {y : MethodName} {bytes : ByteArray} {mx : Nat} {rt : Option FieldType} {a : Array Value} {s : State} {m : MethodId} {meth : Method} {c : Code} (h1 : s.methodNamed? y = some m) (h2 : s.vm.method? m = some meth) (h3 : meth.code = some c) (h4 : c.code = bytes)
    (h5 : (c.maxLocals == mx && c.exceptionTable.isEmpty && decide (c.maxStack ≤ mostOperands) && decide (meth.sig.returnType = rt) && !meth.locks && decide (parseMethodDescriptor y.desc = some meth.sig)) = true) : (Jvm.Cond.code y bytes mx rt).before a s = true := by
  simp only [Bool.and_eq_true, beq_iff_eq, Bool.not_eq_true', decide_eq_true_eq] at h5
  obtain ⟨⟨⟨⟨⟨g1, g2⟩, g3⟩, g4⟩, g5⟩, g6⟩ := h5
  simp [Cond.before, Cond.holds, Cond.value, h1, h2, h3, h4, g1, g2, g3, g4, g5, g6]
def isCode : Jvm.Cond → Bool
  | .code _ _ _ _ => true
  | _ => false
theorem all_split {L : List Jvm.Cond} {P : Jvm.Cond → Bool} (h1 : L.all (fun c => isCode c || P c) = true) (h2 : ∀ c ∈ L.filter isCode, P c = true) : L.all P = true := by
  refine List.all_eq_true.mpr fun c hc => ?_
  have h := List.all_eq_true.mp h1 c hc
  rcases Bool.eq_false_or_eq_true (isCode c) with hi | hi
  · exact h2 c (List.mem_filter.mpr ⟨hc, hi⟩)
  · simpa [hi] using h
set_option maxRecDepth 65536 in
theorem w_c0 : (Jvm.Cond.code x code maxLocals ret).before args0 about1 = true := code_word (m := ⟨1, 5⟩) (meth := k1m5) (c := k1c5) (by decide +kernel) rfl rfl rfl (by decide +kernel)
set_option maxRecDepth 65536 in
theorem w_c1 : (Jvm.Cond.code ({ cls := "com/example/wayfold/wayfold/engine/DayTiming$Timeline", name := "<init>", desc := "(I)V" } : Jvm.MethodName) prog_4_method_1_code (2 : Nat) (Option.none : Option Jvm.ClassFile.FieldType)).before args0 about1 = true := code_word (m := ⟨2, 0⟩) (meth := k2m0) (c := k2c0) (by decide +kernel) rfl rfl rfl (by decide +kernel)
set_option maxRecDepth 65536 in
theorem w_c2 : (Jvm.Cond.code ({ cls := "java/lang/Object", name := "<init>", desc := "()V" } : Jvm.MethodName) object_method_1_code (1 : Nat) (Option.none : Option Jvm.ClassFile.FieldType)).before args0 about1 = true := code_word (m := ⟨0, 0⟩) (meth := k0m0) (c := k0c0) (by decide +kernel) rfl rfl rfl (by decide +kernel)
set_option maxRecDepth 65536 in
theorem w_c3 : (Jvm.Cond.code ({ cls := "com/example/wayfold/wayfold/engine/TimelineCopyPinLaw", name := "fillAll", desc := "(Lcom/example/wayfold/wayfold/engine/DayTiming$Timeline;II)V" } : Jvm.MethodName) method_3_code (3 : Nat) (Option.none : Option Jvm.ClassFile.FieldType)).before args0 about1 = true := code_word (m := ⟨1, 2⟩) (meth := k1m2) (c := k1c2) (by decide +kernel) rfl rfl rfl (by decide +kernel)
set_option maxRecDepth 65536 in
theorem w_c4 : (Jvm.Cond.code ({ cls := "com/example/wayfold/wayfold/engine/TimelineCopyPinLaw", name := "fill", desc := "([DI)V" } : Jvm.MethodName) method_2_code (2 : Nat) (Option.none : Option Jvm.ClassFile.FieldType)).before args0 about1 = true := code_word (m := ⟨1, 1⟩) (meth := k1m1) (c := k1c1) (by decide +kernel) rfl rfl rfl (by decide +kernel)
set_option maxRecDepth 65536 in
theorem w_c5 : (Jvm.Cond.code ({ cls := "com/example/wayfold/wayfold/engine/DayTiming$Timeline", name := "copy", desc := "(Lcom/example/wayfold/wayfold/engine/DayTiming$Timeline;)V" } : Jvm.MethodName) prog_4_method_2_code (2 : Nat) (Option.none : Option Jvm.ClassFile.FieldType)).before args0 about1 = true := code_word (m := ⟨2, 1⟩) (meth := k2m1) (c := k2c1) (by decide +kernel) rfl rfl rfl (by decide +kernel)
set_option maxRecDepth 65536 in
theorem w_c6 : (Jvm.Cond.code ({ cls := "com/example/wayfold/wayfold/engine/TimelineCopyPinLaw", name := "okAll", desc := "(Lcom/example/wayfold/wayfold/engine/DayTiming$Timeline;III)Z" } : Jvm.MethodName) method_5_code (4 : Nat) (Option.some Jvm.ClassFile.FieldType.boolean)).before args0 about1 = true := code_word (m := ⟨1, 4⟩) (meth := k1m4) (c := k1c4) (by decide +kernel) rfl rfl rfl (by decide +kernel)
set_option maxRecDepth 65536 in
theorem w_c7 : (Jvm.Cond.code ({ cls := "com/example/wayfold/wayfold/engine/TimelineCopyPinLaw", name := "ok", desc := "([DIII)Z" } : Jvm.MethodName) method_4_code (4 : Nat) (Option.some Jvm.ClassFile.FieldType.boolean)).before args0 about1 = true := code_word (m := ⟨1, 3⟩) (meth := k1m3) (c := k1c3) (by decide +kernel) rfl rfl rfl (by decide +kernel)
def codes1 : List Jvm.Cond := [Jvm.Cond.code x code maxLocals ret, Jvm.Cond.code ({ cls := "com/example/wayfold/wayfold/engine/DayTiming$Timeline", name := "<init>", desc := "(I)V" } : Jvm.MethodName) prog_4_method_1_code (2 : Nat) (Option.none : Option Jvm.ClassFile.FieldType), Jvm.Cond.code ({ cls := "java/lang/Object", name := "<init>", desc := "()V" } : Jvm.MethodName) object_method_1_code (1 : Nat) (Option.none : Option Jvm.ClassFile.FieldType), Jvm.Cond.code ({ cls := "com/example/wayfold/wayfold/engine/TimelineCopyPinLaw", name := "fillAll", desc := "(Lcom/example/wayfold/wayfold/engine/DayTiming$Timeline;II)V" } : Jvm.MethodName) method_3_code (3 : Nat) (Option.none : Option Jvm.ClassFile.FieldType), Jvm.Cond.code ({ cls := "com/example/wayfold/wayfold/engine/TimelineCopyPinLaw", name := "fill", desc := "([DI)V" } : Jvm.MethodName) method_2_code (2 : Nat) (Option.none : Option Jvm.ClassFile.FieldType), Jvm.Cond.code ({ cls := "com/example/wayfold/wayfold/engine/DayTiming$Timeline", name := "copy", desc := "(Lcom/example/wayfold/wayfold/engine/DayTiming$Timeline;)V" } : Jvm.MethodName) prog_4_method_2_code (2 : Nat) (Option.none : Option Jvm.ClassFile.FieldType), Jvm.Cond.code ({ cls := "com/example/wayfold/wayfold/engine/TimelineCopyPinLaw", name := "okAll", desc := "(Lcom/example/wayfold/wayfold/engine/DayTiming$Timeline;III)Z" } : Jvm.MethodName) method_5_code (4 : Nat) (Option.some Jvm.ClassFile.FieldType.boolean), Jvm.Cond.code ({ cls := "com/example/wayfold/wayfold/engine/TimelineCopyPinLaw", name := "ok", desc := "([DIII)Z" } : Jvm.MethodName) method_4_code (4 : Nat) (Option.some Jvm.ClassFile.FieldType.boolean)]
set_option maxRecDepth 65536 in
theorem codes_eq : words1.filter isCode = codes1 := rfl
theorem w_codes : ∀ c ∈ words1.filter isCode, c.before args0 about1 = true := by
  rw [codes_eq]
  intro c hc
  simp only [codes1, List.mem_cons, List.not_mem_nil, or_false] at hc
  rcases hc with rfl | rfl | rfl | rfl | rfl | rfl | rfl | rfl
  · exact w_c0
  · exact w_c1
  · exact w_c2
  · exact w_c3
  · exact w_c4
  · exact w_c5
  · exact w_c6
  · exact w_c7
set_option maxRecDepth 65536 in
theorem w_t1 : (words1.take 24).all (fun c => isCode c || c.before args0 about1) = true := by decide +kernel
set_option maxRecDepth 65536 in
theorem w_t2 : ((words1.drop 24).take 24).all (fun c => isCode c || c.before args0 about1) = true := by decide +kernel
set_option maxRecDepth 65536 in
theorem w_t3 : ((words1.drop 24).drop 24).all (fun c => isCode c || c.before args0 about1) = true := by decide +kernel
theorem w_tables : (allAtoms (Jvm.Cond.code x code maxLocals ret :: tables_1)).before args0 about1 = true := by
  rw [allAtoms_all]
  show words1.all (fun c => c.before args0 about1) = true
  refine all_split ?_ w_codes
  rw [← List.take_append_drop 24 words1, List.all_append, w_t1, ← List.take_append_drop 24 (words1.drop 24), List.all_append, w_t2, w_t3]
  rfl
set_option maxRecDepth 65536 in
theorem w_case : (Jvm.Cond.and given_1 narrow_1).before args0 about1 = true := by decide +kernel
theorem w_applies : (headSpec (Jvm.Cond.code x code maxLocals ret :: tables_1) room_1).applies x e0.platform about1 = true :=
  (Spec.applies_iff w_frames).mpr ⟨w_running, w_runnable, w_alone, w_named, w_hears, w_ripe, w_room, w_tables⟩
theorem atStart : AtStart classFile x code maxLocals ret World_1 tables_1 room_1 Calls_1 rest_1 Pre_1 launch0 p0 e0 about1 theMethod args0 below0 :=
  ⟨lists_1, trivial, launch0.admits_env _ _ _, launch0.least_env, fairChoices_fair.cas, fairChoices_fair.clock, w_frames, w_args, w_heap, w_applies, trivial, trivial, w_case⟩
end start1
theorem witness_1 : WitnessClaimed_1 := ⟨start1.p0, start1.e0, start1.about1, start1.theMethod, start1.args0, start1.below0, start1.atStart⟩
end Jvm.Pilot.@@N@@
