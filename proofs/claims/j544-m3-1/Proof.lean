import JvmDerived
import JvmDerived.Pilot.@@N@@Statement
import JvmDerived.Pilot.@@N@@Code
set_option linter.unusedVariables false
set_option linter.unusedSimpArgs false
@@BLOCK:NumsL.lean.txt@@
namespace Jvm.Pilot.@@N@@
open Jvm Jvm.ClassFile Sem Op Lib Jvm.Free Jvm.Stand Jvm.LawKit Jvm.RoadKit Bundle Jvm.Pilot.@@N@@.Jvm.D
section OwnKit
variable {p : Program} {l : Launch} {e : Env} {R : Room} {s : State} {m : MethodId} {args : Array Value} {below : List Frame} {meth : Method} {c : Code} {T T' : State} {locs : List Loc} {cells slots : Nat} {Q : Option Value → Heap → List Loc → Prop} {k n : Nat} {Fin : Outcome → State → Prop} {Z : State} {a0 : Array Value} {h : Heap} {pc : Nat} {Ls : Array Slot} {rest : List Value}
/-- from this frame on the body ends as Fin says -/
def own_Go (p : Program) (e : Env) (below : List Frame) (Fin : Outcome → State → Prop) (T : State) (f : JFrame) : Prop :=
  ∃ s₂ o, Steps p.tables e below (T.setTop f) s₂ ∧ s₂.status = .running ∧ Ended s₂ below o ∧ Fin o s₂
/-- it returned, as Q says; the frame as ever -/
def own_Fin (s : State) (Q : Option Value → Heap → List Loc → Prop) (k n : Nat) (o : Outcome) (t : State) : Prop := ∃ v L, o = .returned v ∧ Q v t.heap L ∧ FrameEnd s o t L k n
/-- it returned, as Q says; String constants may have been resolved -/
def own_FinW (s : State) (Q : Option Value → Heap → List Loc → Prop) (k n : Nat) (o : Outcome) (t : State) : Prop := ∃ v L, o = .returned v ∧ Q v t.heap L ∧ ReturnedEndW s o t L k n
theorem own_by {f f' : JFrame} (st : ∀ t, Steps p.tables e below (T'.setTop f') t → Steps p.tables e below (T.setTop f) t) (g : own_Go p e below Fin T' f') : own_Go p e below Fin T f := by
  obtain ⟨s₂, o, h, r⟩ := g
  exact ⟨s₂, o, st _ h, r⟩
theorem own_start {f f' : JFrame} (q : f = f') (g : own_Go p e below (own_Fin s Q k n) T f') : ∃ s₂ o, Steps p.tables e below (T.setTop f) s₂ ∧ s₂.status = .running ∧ Ended s₂ below o ∧ ∃ v L, o = .returned v ∧ Q v s₂.heap L ∧ FrameEnd s o s₂ L k n := by
  subst q; exact g
theorem own_startW {f f' : JFrame} (q : f = f') (g : own_Go p e below (own_FinW s Q k n) T f') : ∃ s₂ o, Steps p.tables e below (T.setTop f) s₂ ∧ s₂.status = .running ∧ Ended s₂ below o ∧ ∃ v L, o = .returned v ∧ Q v s₂.heap L ∧ ReturnedEndW s o s₂ L k n := by
  subst q; exact g
theorem own_ret (X : Stand p l e R s m args below meth c T locs cells slots) (hx : p.tables.exec = Jvm.exec) (hlk : meth.locks = false) {w : Value} {t : FieldType} {i : Instr} (hret : meth.sig.returnType = some t)
    (hi : (i = .ireturn ∧ (t = .int ∨ t = .boolean ∨ t = .byte ∨ t = .char ∨ t = .short) ∧ ∃ z, w = .int z) ∨ (i = .lreturn ∧ t = .long ∧ ∃ z, w = .long z) ∨ (i = .dreturn ∧ t = .double ∧ ∃ z, w = .double z) ∨ (i = .freturn ∧ t = .float ∧ ∃ z, w = .float z) ∨ (i = .areturn ∧ t.isReference = true ∧ w.isRef = true))
    (hn : narrow t w = w) (hd : decode c.code pc = .ok (i, 1)) (eT : T.heap = h) (hk : cells ≤ k) (hs : slots ≤ n) (q : Q (some w) h locs) : own_Go p e below (own_Fin s Q k n) T (mkF m pc Ls (w :: rest)) := by
  obtain ⟨fs, hr, hrun, hended, hW, hsame⟩ := X.leave (v := some w) (fun h => by rw [hret] at h; cases h) hlk
  refine ⟨_, _, retOut X hx hret hn hi hd hr, hrun, hended, _, _, rfl, ?_, ⟨_, rfl⟩, hW, hsame.mono hk hs⟩
  show Q _ T.heap _
  rw [eT]; exact q
theorem own_retI (X : Stand p l e R s m args below meth c T locs cells slots) (hx : p.tables.exec = Jvm.exec) (hlk : meth.locks = false) {z : Int32} (hret : meth.sig.returnType = some .int) (hd : decode c.code pc = .ok (.ireturn, 1)) (eT : T.heap = h) (hk : cells ≤ k) (hs : slots ≤ n) (q : Q (some (.int z)) h locs) : own_Go p e below (own_Fin s Q k n) T (mkF m pc Ls (.int z :: rest)) :=
  own_ret X hx hlk hret (Or.inl ⟨rfl, Or.inl rfl, z, rfl⟩) rfl hd eT hk hs q
theorem own_retZ (X : Stand p l e R s m args below meth c T locs cells slots) (hx : p.tables.exec = Jvm.exec) (hlk : meth.locks = false) {z : Int32} (hret : meth.sig.returnType = some .boolean) (hz : z = 0 ∨ z = 1) (hd : decode c.code pc = .ok (.ireturn, 1)) (eT : T.heap = h) (hk : cells ≤ k) (hs : slots ≤ n) (q : Q (some (.int z)) h locs) : own_Go p e below (own_Fin s Q k n) T (mkF m pc Ls (.int z :: rest)) :=
  own_ret X hx hlk hret (Or.inl ⟨rfl, Or.inr (Or.inl rfl), z, rfl⟩) (by rcases hz with rfl | rfl <;> rfl) hd eT hk hs q
theorem own_retJ (X : Stand p l e R s m args below meth c T locs cells slots) (hx : p.tables.exec = Jvm.exec) (hlk : meth.locks = false) {z : Int64} (hret : meth.sig.returnType = some .long) (hd : decode c.code pc = .ok (.lreturn, 1)) (eT : T.heap = h) (hk : cells ≤ k) (hs : slots ≤ n) (q : Q (some (.long z)) h locs) : own_Go p e below (own_Fin s Q k n) T (mkF m pc Ls (.long z :: rest)) :=
  own_ret X hx hlk hret (Or.inr (Or.inl ⟨rfl, rfl, z, rfl⟩)) rfl hd eT hk hs q
theorem own_retR (X : Stand p l e R s m args below meth c T locs cells slots) (hx : p.tables.exec = Jvm.exec) (hlk : meth.locks = false) {w : Value} {t : FieldType} (hret : meth.sig.returnType = some t) (ht : t.isReference = true) (hw : w.isRef = true) (hn : narrow t w = w) (hd : decode c.code pc = .ok (.areturn, 1)) (eT : T.heap = h) (hk : cells ≤ k) (hs : slots ≤ n) (q : Q (some w) h locs) : own_Go p e below (own_Fin s Q k n) T (mkF m pc Ls (w :: rest)) :=
  own_ret X hx hlk hret (Or.inr (Or.inr (Or.inr (Or.inr ⟨rfl, ht, hw⟩)))) hn hd eT hk hs q
theorem own_retV (X : Stand p l e R s m args below meth c T locs cells slots) (hx : p.tables.exec = Jvm.exec) (hlk : meth.locks = false) (hret : meth.sig.returnType = none) (hd : decode c.code pc = .ok (.return_, 1)) (eT : T.heap = h) (hk : cells ≤ k) (hs : slots ≤ n) (q : Q none h locs) : own_Go p e below (own_Fin s Q k n) T (mkF m pc Ls []) := by
  obtain ⟨fs, hr, hrun, hended, hW, hsame⟩ := X.leave (v := none) (fun _ => rfl) hlk
  refine ⟨_, _, X.returnOut hx hret hd hr, hrun, hended, _, _, rfl, ?_, ⟨_, rfl⟩, hW, hsame.mono hk hs⟩
  show Q _ T.heap _
  rw [eT]; exact q
/-- a conditional branch as a plain comparison -/
def own_cnd : ClassFile.Cond → Int32 → Int32 → Prop
  | .eq, x, y => x = y
  | .ne, x, y => ¬ x = y
  | .lt, x, y => x < y
  | .ge, x, y => ¬ x < y
  | .gt, x, y => y < x
  | .le, x, y => ¬ y < x
def own_neg : ClassFile.Cond → ClassFile.Cond
  | .eq => .ne
  | .ne => .eq
  | .lt => .ge
  | .ge => .lt
  | .gt => .le
  | .le => .gt
theorem own_holds (cd : ClassFile.Cond) (x y : Int32) : (if_icmp.holds cd x y = true ∧ own_cnd cd x y) ∨ (if_icmp.holds cd x y = false ∧ own_cnd (own_neg cd) x y) := by
  cases cd
  case eq => by_cases q : x = y; · exact Or.inl ⟨(teq q).1, q⟩
             · exact Or.inr ⟨(feq q).1, q⟩
  case ne => by_cases q : x = y; · exact Or.inr ⟨(teq q).2, q⟩
             · exact Or.inl ⟨(feq q).2, q⟩
  case lt => by_cases q : x < y; · exact Or.inl ⟨(tlt q).1, q⟩
             · exact Or.inr ⟨(flt q).1, q⟩
  case ge => by_cases q : x < y; · exact Or.inr ⟨(tlt q).2.1, q⟩
             · exact Or.inl ⟨(flt q).2.1, q⟩
  case gt => by_cases q : y < x; · exact Or.inl ⟨(tlt q).2.2.1, q⟩
             · exact Or.inr ⟨(flt q).2.2.1, q⟩
  case le => by_cases q : y < x; · exact Or.inr ⟨(tlt q).2.2.2, q⟩
             · exact Or.inl ⟨(flt q).2.2.2, q⟩
theorem own_icmp (X : Stand p l e R s m args below meth c T locs cells slots) (hx : p.tables.exec = Jvm.exec) {cd : ClassFile.Cond} {x y : Int32} {o : Int} (pc' : Nat) (hd : decode c.code pc = .ok (.if_icmp cd o, 3)) (ho : 0 ≤ (pc : Int) + o) (hp : ((pc : Int) + o).toNat = pc')
    (g1 : own_cnd cd x y → own_Go p e below Fin T (mkF m pc' Ls rest)) (g2 : own_cnd (own_neg cd) x y → own_Go p e below Fin T (mkF m (pc + 3) Ls rest)) : own_Go p e below Fin T (mkF m pc Ls (.int y :: .int x :: rest)) := by
  rcases own_holds cd x y with ⟨q, q'⟩ | ⟨q, q'⟩
  · exact own_by (fun t kk => XS.icmpYes X.here hx rfl (pc0 := pc) (pc' := pc') rfl hd rfl q ho hp kk) (g1 q')
  · exact own_by (fun t kk => XS.icmpNo X.here hx rfl hd rfl q kk) (g2 q')
theorem own_if (X : Stand p l e R s m args below meth c T locs cells slots) (hx : p.tables.exec = Jvm.exec) {cd : ClassFile.Cond} {x : Int32} {o : Int} (pc' : Nat) (hd : decode c.code pc = .ok (.ifCond cd o, 3)) (ho : 0 ≤ (pc : Int) + o) (hp : ((pc : Int) + o).toNat = pc')
    (g1 : own_cnd cd x 0 → own_Go p e below Fin T (mkF m pc' Ls rest)) (g2 : own_cnd (own_neg cd) x 0 → own_Go p e below Fin T (mkF m (pc + 3) Ls rest)) : own_Go p e below Fin T (mkF m pc Ls (.int x :: rest)) := by
  rcases own_holds cd x 0 with ⟨q, q'⟩ | ⟨q, q'⟩
  · exact own_by (fun t kk => XS.ifYes X.here hx rfl (pc0 := pc) (pc' := pc') rfl hd rfl ((if0 _ _).trans q) ho hp kk) (g1 q')
  · exact own_by (fun t kk => XS.ifNo X.here hx rfl hd rfl ((if0 _ _).trans q) kk) (g2 q')
/-- a static call by the callee's contract -/
theorem own_callS (X : Stand p l e R s m args below meth c T locs cells slots) (hx : p.tables.exec = Jvm.exec) (hZ : Z.Warmed39 s.vm) {own : String} {index : Nat} {y : MethodName} {bytes : ByteArray} {maxL W : Nat} {ret : Option FieldType} {rm : Room} {Qc : Option Value → Heap → List Loc → Prop}
    (hown : s.vm.findClass own = some m.cls) (w1 : (Cond.methodLink own index y).before a0 Z = true) (w2 : (Cond.static y).before a0 Z = true) (w3 : (Cond.initialized y.cls).before a0 Z = true) (w4 : (Cond.code y bytes maxL ret).before a0 Z = true)
    (hy : y.cls ≠ "java/lang/invoke/MethodHandle" ∧ y.cls ≠ "java/lang/invoke/VarHandle") (hml : Ls.size = c.maxLocals) {argsL : List Value} {ps : List FieldType} {rt : Option FieldType} (pd : parseMethodDescriptor y.desc = some ⟨ps, rt⟩) (hlen : argsL.length = ps.length)
    (hM : MetFree l y (head1 [Cond.code y bytes maxL ret] rm) (fun a U => a = argsL.toArray ∧ Z.Warmed39 U.vm ∧ U.heap = h) (fun _ _ _ _ _ => True) (fun _ U o U' => ∃ v L, o = .returned v ∧ Qc v U'.heap L ∧ FrameEnd U o U' L rm.cells rm.slots))
    (hf : rm.frames + 1 ≤ R.frames) (hl : W + (maxL + 11) + rm.locals ≤ R.locals) (hW : (rest.map fun v => v.category).sum ≤ W) (hc : cells + rm.cells ≤ R.cells) (hs : slots + rm.slots ≤ R.slots) (eT : T.heap = h) {st : List Value} (hst : st = argsL.reverse ++ rest) (hd : decode c.code pc = .ok (.invokestatic index, 3))
    (g : ∀ (v : Option Value) (T' : State) (L : List Loc), Stand p l e R s m args below meth c T' (locs ++ L) (cells + rm.cells) (slots + rm.slots) → Qc v T'.heap L → own_Go p e below Fin T' (mkF m (pc + 3) Ls (v.toList ++ rest))) :
    own_Go p e below Fin T (mkF m pc Ls st) := by
  subst hst
  obtain ⟨v, _, ⟨T2, L2, k2, n2⟩, -, X2, ⟨Lc2, hQ2, l2, y2, z2⟩, st2⟩ := Jvm.LawKit.callS X hx (y := y) hown (mvT hZ w1) (mvT hZ w2) (mvT hZ w3) (mvT hZ w4) hy (backOf (W := W) hM hZ w4 w3 hf hl) (g := (mkF m pc Ls (argsL.reverse ++ rest))) rfl hml (argsL := argsL) (rest := rest) (lenOf pd hlen) rfl (by show 2 * 0 + _ ≤ _; omega) hd (fun _ _ => ⟨rfl, eT, hc, hs⟩)
  dsimp only [Pt.U, Pt.locs, Pt.cells, Pt.slots] at X2 l2 y2 z2 st2 hQ2
  subst l2 y2 z2
  exact own_by (fun t kk => st2 _ kk) (g v T2 Lc2 X2 hQ2)
/-- a constructor by its contract -/
theorem own_callC (X : Stand p l e R s m args below meth c T locs cells slots) (hx : p.tables.exec = Jvm.exec) (hZ : Z.Warmed39 s.vm) {own : String} {index : Nat} {y : MethodName} {bytes : ByteArray} {maxL W : Nat} {rm : Room} {Qc : Option Value → Heap → List Loc → Prop} (hy1 : y.name = "<init>")
    (hown : s.vm.findClass own = some m.cls) (w1 : (Cond.methodLink own index y).before a0 Z = true) (w2 : (Cond.instanceMethod y).before a0 Z = true) (w3 : (Cond.initialized y.cls).before a0 Z = true) (w4 : (Cond.code y bytes maxL none).before a0 Z = true)
    (hy : y.cls ≠ "java/lang/invoke/MethodHandle" ∧ y.cls ≠ "java/lang/invoke/VarHandle") (hml : Ls.size = c.maxLocals) {a : Addr} {argsL : List Value} {ps : List FieldType} {rt : Option FieldType} (pd : parseMethodDescriptor y.desc = some ⟨ps, rt⟩) (hlen : argsL.length = ps.length)
    (hM : MetFree l y (head1 [Cond.code y bytes maxL none] rm) (fun b U => b = (.ref a :: argsL).toArray ∧ Z.Warmed39 U.vm ∧ U.heap = h) (fun _ _ _ _ _ => True) (fun _ U o U' => ∃ v L, o = .returned v ∧ Qc v U'.heap L ∧ FrameEnd U o U' L rm.cells rm.slots))
    (hf : rm.frames + 1 ≤ R.frames) (hl : W + (maxL + 11) + rm.locals ≤ R.locals) (hW : (rest.map fun v => v.category).sum ≤ W) (hc : cells + rm.cells ≤ R.cells) (hs : slots + rm.slots ≤ R.slots) (eT : T.heap = h) {st : List Value} (hst : st = argsL.reverse ++ .ref a :: rest) (hd : decode c.code pc = .ok (.invokespecial index, 3))
    (g : ∀ (v : Option Value) (T' : State) (L : List Loc), Stand p l e R s m args below meth c T' (locs ++ L) (cells + rm.cells) (slots + rm.slots) → Qc v T'.heap L → own_Go p e below Fin T' (mkF m (pc + 3) Ls (v.toList ++ rest))) :
    own_Go p e below Fin T (mkF m pc Ls st) := by
  subst hst
  obtain ⟨v, _, ⟨T2, L2, k2, n2⟩, -, X2, ⟨Lc2, hQ2, l2, y2, z2⟩, st2⟩ := X.specialBack hx (y := y) hy1 hown (mvT hZ w1) (mvT hZ w2) (mvT hZ w4) hy (backOf (W := W) hM hZ w4 w3 hf hl) (g := (mkF m pc Ls (argsL.reverse ++ .ref a :: rest))) rfl hml (Steps.refl _) (a := a) (argsL := argsL) (rest := rest) (lenOf pd hlen) rfl (by show 2 * 0 + _ ≤ _; omega) hd (fun _ _ => ⟨rfl, eT, hc, hs⟩)
  dsimp only [Pt.U, Pt.locs, Pt.cells, Pt.slots] at X2 l2 y2 z2 st2 hQ2
  subst l2 y2 z2
  exact own_by (fun t kk => st2.trans kk) (g v T2 Lc2 X2 hQ2)
/-- an instance method of the receiver's own class by its contract -/
theorem own_callV (X : Stand p l e R s m args below meth c T locs cells slots) (hx : p.tables.exec = Jvm.exec) (hZ : Z.Warmed39 s.vm) {own C : String} {index : Nat} {y z : MethodName} {bytes : ByteArray} {maxL W : Nat} {ret : Option FieldType} {rm : Room} {Qc : Option Value → Heap → List Loc → Prop}
    (hown : s.vm.findClass own = some m.cls) (w1 : (Cond.methodLink own index y).before a0 Z = true) (wd : (Cond.declares y).before a0 Z = true) (nf : NotFace s y) (ws : (Cond.selects C y z).before a0 Z = true) (w2 : (Cond.instanceMethod z).before a0 Z = true) (w3 : (Cond.initialized z.cls).before a0 Z = true) (w4 : (Cond.code z bytes maxL ret).before a0 Z = true)
    (hy : y.cls ≠ "java/lang/invoke/MethodHandle" ∧ y.cls ≠ "java/lang/invoke/VarHandle") (hml : Ls.size = c.maxLocals) {a : Addr} {argsL : List Value} {ps : List FieldType} {rt : Option FieldType} (pd : parseMethodDescriptor y.desc = some ⟨ps, rt⟩) (hlen : argsL.length = ps.length)
    (eT : T.heap = h) (E : Exa Z h a C)
    (hM : MetFree l z (head1 [Cond.code z bytes maxL ret] rm) (fun b U => b = (.ref a :: argsL).toArray ∧ Z.Warmed39 U.vm ∧ U.heap = h) (fun _ _ _ _ _ => True) (fun _ U o U' => ∃ v L, o = .returned v ∧ Qc v U'.heap L ∧ FrameEnd U o U' L rm.cells rm.slots))
    (hf : rm.frames + 1 ≤ R.frames) (hl : W + (maxL + 11) + rm.locals ≤ R.locals) (hW : (rest.map fun v => v.category).sum ≤ W) (hc : cells + rm.cells ≤ R.cells) (hs : slots + rm.slots ≤ R.slots) {st : List Value} (hst : st = argsL.reverse ++ .ref a :: rest) (hd : decode c.code pc = .ok (.invokevirtual index, 3))
    (g : ∀ (v : Option Value) (T' : State) (L : List Loc), Stand p l e R s m args below meth c T' (locs ++ L) (cells + rm.cells) (slots + rm.slots) → Qc v T'.heap L → own_Go p e below Fin T' (mkF m (pc + 3) Ls (v.toList ++ rest))) :
    own_Go p e below Fin T (mkF m pc Ls st) := by
  subst hst
  obtain ⟨cq, kq, qa, qb, qc⟩ := isOf hZ eT E
  obtain ⟨v, _, ⟨T2, L2, k2, n2⟩, -, X2, ⟨Lc2, hQ2, l2, y2, z2⟩, st2⟩ := X.virtualBack hx (y := y) (z := z) hown (mvT hZ w1) (mvT hZ wd) nf (mvT hZ ws) (mvT hZ w2) hy (backOf (W := W) hM hZ w4 w3 hf hl) qa qc (g := (mkF m pc Ls (argsL.reverse ++ .ref a :: rest))) rfl hml (Steps.refl _) (argsL := argsL) (rest := rest) (lenOf pd hlen) rfl (by show 2 * 0 + _ ≤ _; omega) hd (fun _ _ => ⟨rfl, eT, hc, hs⟩)
  dsimp only [Pt.U, Pt.locs, Pt.cells, Pt.slots] at X2 l2 y2 z2 st2 hQ2
  subst l2 y2 z2
  exact own_by (fun t kk => st2.trans kk) (g v T2 Lc2 X2 hQ2)
theorem own_getF (X : Stand p l e R s m args below meth c T locs cells slots) (hx : p.tables.exec = Jvm.exec) (hZ : Z.Warmed39 s.vm) {own R0 O nm d : String} {index : Nat} (hown : s.vm.findClass own = some m.cls) (w : (Cond.fieldLink own index R0 nm d).before a0 Z = true) (via : Via Z R0 O nm d) (eT : T.heap = h) {a : Addr} {v : Value} (F : Fld Z h a O nm d v) (hd : decode c.code pc = .ok (.getfield index, 3))
    (g : ∀ T', Stand p l e R s m args below meth c T' locs cells slots → T'.heap = h → own_Go p e below Fin T' (mkF m (pc + 3) Ls (v :: rest))) : own_Go p e below Fin T (mkF m pc Ls (.ref a :: rest)) := by
  obtain ⟨T', X', e', st⟩ := getF X hx hZ hown (host := "") (Or.inl w) via eT F (g := mkF m pc Ls (.ref a :: rest)) rfl rfl hd
  exact own_by (fun t kk => st _ kk) (g T' X' e')
theorem own_getFN (X : Stand p l e R s m args below meth c T locs cells slots) (hx : p.tables.exec = Jvm.exec) (hZ : Z.Warmed39 s.vm) {own R0 O nm d host : String} {index : Nat} (hown : s.vm.findClass own = some m.cls) (w : (Cond.fieldLinkNest own index R0 nm d host).before a0 Z = true) (via : Via Z R0 O nm d) (eT : T.heap = h) {a : Addr} {v : Value} (F : Fld Z h a O nm d v) (hd : decode c.code pc = .ok (.getfield index, 3))
    (g : ∀ T', Stand p l e R s m args below meth c T' locs cells slots → T'.heap = h → own_Go p e below Fin T' (mkF m (pc + 3) Ls (v :: rest))) : own_Go p e below Fin T (mkF m pc Ls (.ref a :: rest)) := by
  obtain ⟨T', X', e', st⟩ := getF X hx hZ hown (Or.inr w) via eT F (g := mkF m pc Ls (.ref a :: rest)) rfl rfl hd
  exact own_by (fun t kk => st _ kk) (g T' X' e')
theorem own_getS (X : Stand p l e R s m args below meth c T locs cells slots) (hx : p.tables.exec = Jvm.exec) (hZ : Z.Warmed39 s.vm) {own R0 O nm d : String} {index : Nat} (hown : s.vm.findClass own = some m.cls) (w : (Cond.fieldLink own index R0 nm d).before a0 Z = true) (via : Via Z R0 O nm d) (eT : T.heap = h) {v : Value} (F : Sta Z h O nm d v) (hd : decode c.code pc = .ok (.getstatic index, 3)) {st0 : List Value}
    (g : ∀ T', Stand p l e R s m args below meth c T' locs cells slots → T'.heap = h → own_Go p e below Fin T' (mkF m (pc + 3) Ls (v :: st0))) : own_Go p e below Fin T (mkF m pc Ls st0) := by
  obtain ⟨T', X', e', st⟩ := getS2 X hx hZ hown (host := "") (Or.inl w) via eT F (g := mkF m pc Ls st0) rfl hd
  exact own_by (fun t kk => st _ kk) (g T' X' e')
theorem own_getSN (X : Stand p l e R s m args below meth c T locs cells slots) (hx : p.tables.exec = Jvm.exec) (hZ : Z.Warmed39 s.vm) {own R0 O nm d host : String} {index : Nat} (hown : s.vm.findClass own = some m.cls) (w : (Cond.fieldLinkNest own index R0 nm d host).before a0 Z = true) (via : Via Z R0 O nm d) (eT : T.heap = h) {v : Value} (F : Sta Z h O nm d v) (hd : decode c.code pc = .ok (.getstatic index, 3)) {st0 : List Value}
    (g : ∀ T', Stand p l e R s m args below meth c T' locs cells slots → T'.heap = h → own_Go p e below Fin T' (mkF m (pc + 3) Ls (v :: st0))) : own_Go p e below Fin T (mkF m pc Ls st0) := by
  obtain ⟨T', X', e', st⟩ := getS2 X hx hZ hown (Or.inr w) via eT F (g := mkF m pc Ls st0) rfl hd
  exact own_by (fun t kk => st _ kk) (g T' X' e')
theorem own_putF (X : Stand p l e R s m args below meth c T locs cells slots) (hx : p.tables.exec = Jvm.exec) (hZ : Z.Warmed39 s.vm) {own R0 O nm d C : String} {index kk : Nat} {ty : FieldType} (hown : s.vm.findClass own = some m.cls) (w : (Cond.fieldLink own index R0 nm d).before a0 Z = true) (via : Via Z R0 O nm d) (eT : T.heap = h) {a : Addr} {v old : Value} (F : Fld Z h a O nm d old) (E : Exa Z h a C)
    (L : (Cond.lays C O nm d).before a0 Z = true ∨ ((Cond.laysFinal C O nm d).before a0 Z = true ∧ own = O ∧ meth.name = "<init>")) (wi : (Cond.instantiable C kk).before a0 Z = true) (hty : parseFieldDescriptor d = some ty) (hn : narrow ty v = v) (hf : fits ty v = true) (hd : decode c.code pc = .ok (.putfield index, 3))
    (g : ∀ T' h', Stand p l e R s m args below meth c T' (locs ++ [⟨a, Jvm.RoadKit.slotOf Z O nm d⟩]) cells slots → T'.heap = h' → Wr h h' a (Jvm.RoadKit.slotOf Z O nm d) v → own_Go p e below Fin T' (mkF m (pc + 3) Ls rest)) : own_Go p e below Fin T (mkF m pc Ls (v :: .ref a :: rest)) := by
  obtain ⟨T', h', X', e', W', st⟩ := putF X hx hZ hown (host := "") (Or.inl w) via eT F E L wi hty hn hf (g := mkF m pc Ls (v :: .ref a :: rest)) rfl rfl hd
  exact own_by (fun t kk => st _ kk) (g T' h' X' e' W')
theorem own_newO (X : Stand p l e R s m args below meth c T locs cells slots) (hx : p.tables.exec = Jvm.exec) (hZ : Z.Warmed39 s.vm) {own C : String} {index nn : Nat} (hown : s.vm.findClass own = some m.cls) (w : (Cond.classLink own index C).before a0 Z = true) (wi : (Cond.instantiable C nn).before a0 Z = true) (wz : (Cond.initialized C).before a0 Z = true) (eT : T.heap = h) (hd : decode c.code pc = .ok (.new index, 3)) (hc : cells + 1 ≤ R.cells) (hl : slots + nn ≤ R.slots) {st0 : List Value}
    (g : ∀ T' h' (b : Addr), Stand p l e R s m args below meth c T' locs (cells + 1) (slots + nn) → T'.heap = h' → b = h.size → Ext h h' → Exa Z h' b C → (∀ {O nm d : String} {ty : FieldType}, Laid Z a0 C O nm d → parseFieldDescriptor d = some ty → Fld Z h' b O nm d (defaultValue ty)) → own_Go p e below Fin T' (mkF m (pc + 3) Ls (.ref b :: st0))) : own_Go p e below Fin T (mkF m pc Ls st0) := by
  obtain ⟨T', h', X', e', E', A', D', -, st⟩ := newO X hx hZ hown w wi wz eT (g := mkF m pc Ls st0) rfl hd hc hl
  exact own_by (fun t kk => st _ kk) (g T' h' _ X' e' rfl E' A' D')
theorem own_initO (X : Stand p l e R s m args below meth c T locs cells slots) (hx : p.tables.exec = Jvm.exec) (hZ : Z.Warmed39 s.vm) {own : String} {idx : Nat} (hown : s.vm.findClass own = some m.cls) (w1 : (Cond.methodLink own idx Lib.objectInit).before a0 Z = true) (w2 : (Cond.instanceMethod Lib.objectInit).before a0 Z = true) (w3 : (Cond.code Lib.objectInit ⟨#[0xb1]⟩ 1 none).before a0 Z = true) (eT : T.heap = h) (hml : Ls.size = c.maxLocals) {a : Addr} (hd : decode c.code pc = .ok (.invokespecial idx, 3)) (hf : 1 ≤ R.frames) {W : Nat} (hW : (rest.map fun v => v.category).sum ≤ W) (hl : W + 12 ≤ R.locals)
    (g : ∀ T', Stand p l e R s m args below meth c T' locs cells slots → T'.heap = h → own_Go p e below Fin T' (mkF m (pc + 3) Ls rest)) : own_Go p e below Fin T (mkF m pc Ls (.ref a :: rest)) := by
  obtain ⟨T', X', e', st⟩ := initO X hx hZ hown w1 w2 w3 eT (g := mkF m pc Ls (.ref a :: rest)) rfl hml rfl hd hf (W := W) (by show 2 * 0 + _ ≤ _; omega) hl
  exact own_by (fun t kk => st _ kk) (g T' X' e')
end OwnKit
section OwnMore
variable {p : Program} {l : Launch} {e : Env} {R : Room} {s : State} {m : MethodId} {args : Array Value} {below : List Frame} {meth : Method} {c : Code} {T T' : State} {locs : List Loc} {cells slots : Nat} {Q : Option Value → Heap → List Loc → Prop} {k n : Nat} {Fin : Outcome → State → Prop} {Z : State} {a0 : Array Value} {h : Heap} {pc : Nat} {Ls : Array Slot} {rest : List Value}
theorem own_acmpEq (X : Stand p l e R s m args below meth c T locs cells slots) (hx : p.tables.exec = Jvm.exec) {a b : Addr} {o : Int} (pc' : Nat) (hd : decode c.code pc = .ok (.if_acmp .eq o, 3)) (ho : 0 ≤ (pc : Int) + o) (hp : ((pc : Int) + o).toNat = pc')
    (g1 : a = b → own_Go p e below Fin T (mkF m pc' Ls rest)) (g2 : ¬ a = b → own_Go p e below Fin T (mkF m (pc + 3) Ls rest)) : own_Go p e below Fin T (mkF m pc Ls (.ref b :: .ref a :: rest)) := by
  by_cases q : a = b
  · exact own_by (fun t kk => XT.acmpYes X.here hx rfl (pc0 := pc) (pc' := pc') rfl hd rfl rfl rfl (decide_eq_true (congrArg Value.ref q)) ho hp kk) (g1 q)
  · exact own_by (fun t kk => XT.acmpNo X.here hx rfl hd rfl rfl rfl (decide_eq_false fun z => q (Value.ref.inj z)) kk) (g2 q)
theorem own_acmpNe (X : Stand p l e R s m args below meth c T locs cells slots) (hx : p.tables.exec = Jvm.exec) {a b : Addr} {o : Int} (pc' : Nat) (hd : decode c.code pc = .ok (.if_acmp .ne o, 3)) (ho : 0 ≤ (pc : Int) + o) (hp : ((pc : Int) + o).toNat = pc')
    (g1 : ¬ a = b → own_Go p e below Fin T (mkF m pc' Ls rest)) (g2 : a = b → own_Go p e below Fin T (mkF m (pc + 3) Ls rest)) : own_Go p e below Fin T (mkF m pc Ls (.ref b :: .ref a :: rest)) := by
  by_cases q : a = b
  · exact own_by (fun t kk => XT.acmpNo X.here hx rfl hd rfl rfl rfl (decide_eq_false fun z => z (congrArg Value.ref q)) kk) (g2 q)
  · exact own_by (fun t kk => XT.acmpYes X.here hx rfl (pc0 := pc) (pc' := pc') rfl hd rfl rfl rfl (decide_eq_true fun z => q (Value.ref.inj z)) ho hp kk) (g1 q)
theorem own_eqI {args : Array Value} {t : Term} {x : Int32} (h : (Cond.eq t (.int x)).value args s none s [] = some true) : t.eval args s none [] s = some (.int x) := by
  have q : (Term.int x).eval args s none [] s = some (.int x) := rfl
  cases ht : t.eval args s none [] s with
  | none => simp [Cond.value, ht] at h
  | some w => cases w <;> simp [Cond.value, ht, q] at h <;> (try subst h) <;> simp_all
theorem own_enumF {args : Array Value} {C f d O nm dd : String} {a : Addr} {x : Int32} (ev : (Term.static C f d).eval args s none [] s = some (.ref a)) (h : (Cond.eq (Term.field (Term.static C f d) O nm dd) (.int x)).value args s none s [] = some true) : Fld s s.heap a O nm dd (.int x) :=
  Fld.start ((fld_at ev).symm.trans (own_eqI h))
theorem own_Sta_keep {Z : State} {h h' : Heap} {C n d : String} {v : Value} {ws : List Addr} (F : Sta Z h C n d v) (K : Keep h h' ws) (q : ∀ x ∈ ws, ∀ cell : Cell, h[x]? = some cell → cell.vm.isStatics = false) : Sta Z h' C n d v := by
  obtain ⟨cf, i, k, f, st, cell, h1, h2, h3, h4, h5, h6, h7⟩ := F
  exact ⟨cf, i, k, f, st, cell, h1, h2, h3, h4, K.2.1 st cell h5 (fun z => by rw [q st z cell h5] at h6; cases h6), h6, h7⟩
end OwnMore
section OwnCall
variable {p : Program} {l : Launch} {e : Env} {R : Room} {s : State} {m : MethodId} {args : Array Value} {below : List Frame} {meth : Method} {c : Code} {T T' : State} {locs : List Loc} {cells slots : Nat} {Fin : Outcome → State → Prop} {Z : State} {a0 : Array Value} {h : Heap} {pc : Nat} {Ls : Array Slot} {rest : List Value}
/-- a private method is selected itself -/
theorem own_selp {y : MethodName} {nn : Nat} (hins : (Cond.instantiable y.cls nn).before args s = true) (hpriv : (Cond.privateMethod y).before args s = true) (hinst : (Cond.instanceMethod y).before args s = true) (hy : y.cls ≠ "java/lang/invoke/MethodHandle" ∧ y.cls ≠ "java/lang/invoke/VarHandle") :
    (Cond.selects y.cls y y).before args s = true := by
  obtain ⟨cc, kc, hc, hk, -, hniab, -, -⟩ := Cond.instantiable_spec hins
  have hni : kc.isInterface = false := (Bool.or_eq_false_iff.mp hniab).1
  obtain ⟨mk, methM, hnamed, hmethM, -, -⟩ := Cond.instanceMethod_spec hinst
  have hfound : s.methodFound? y.cls y.name y.desc = some mk := State.methodFound?_of_named hnamed hy
  have hcls : mk.cls = cc := Option.some.inj ((findClass_of_methodNamed hnamed).symm.trans hc)
  have hsel : selectMethod {} s.vm cc mk = .method mk := selectMethod_private hmethM (Cond.privateMethod_at hpriv mk methM hnamed hmethM)
  simp only [Cond.before, Cond.holds, Cond.value, hc, hfound, hnamed, hsel, hcls, hk]
  simp; exact hni
/-- a private method of the receiver by its contract -/
theorem own_callP (X : Stand p l e R s m args below meth c T locs cells slots) (hx : p.tables.exec = Jvm.exec) (hZ : Z.Warmed39 s.vm) {own C : String} {index nn : Nat} {y : MethodName} {bytes : ByteArray} {maxL W : Nat} {ret : Option FieldType} {rm : Room} {Qc : Option Value → Heap → List Loc → Prop}
    (hown : s.vm.findClass own = some m.cls) (w1 : (Cond.methodLink own index y).before a0 Z = true) (w2 : (Cond.instanceMethod y).before a0 Z = true) (wi : (Cond.instantiable y.cls nn).before a0 Z = true) (wp : (Cond.privateMethod y).before a0 Z = true) (w3 : (Cond.initialized y.cls).before a0 Z = true) (w4 : (Cond.code y bytes maxL ret).before a0 Z = true)
    (hy : y.cls ≠ "java/lang/invoke/MethodHandle" ∧ y.cls ≠ "java/lang/invoke/VarHandle") (hml : Ls.size = c.maxLocals) {a : Addr} {argsL : List Value} {ps : List FieldType} {rt : Option FieldType} (pd : parseMethodDescriptor y.desc = some ⟨ps, rt⟩) (hlen : argsL.length = ps.length)
    (eT : T.heap = h) (E : Exa Z h a C)
    (hM : MetFree l y (head1 [Cond.code y bytes maxL ret] rm) (fun b U => b = (.ref a :: argsL).toArray ∧ Z.Warmed39 U.vm ∧ U.heap = h) (fun _ _ _ _ _ => True) (fun _ U o U' => ∃ v L, o = .returned v ∧ Qc v U'.heap L ∧ FrameEnd U o U' L rm.cells rm.slots))
    (hf : rm.frames + 1 ≤ R.frames) (hl : W + (maxL + 11) + rm.locals ≤ R.locals) (hW : (rest.map fun v => v.category).sum ≤ W) (hc : cells + rm.cells ≤ R.cells) (hs : slots + rm.slots ≤ R.slots) {st : List Value} (hst : st = argsL.reverse ++ .ref a :: rest) (hd : decode c.code pc = .ok (.invokevirtual index, 3))
    (g : ∀ (v : Option Value) (T' : State) (L : List Loc), Stand p l e R s m args below meth c T' (locs ++ L) (cells + rm.cells) (slots + rm.slots) → Qc v T'.heap L → own_Go p e below Fin T' (mkF m (pc + 3) Ls (v.toList ++ rest))) :
    own_Go p e below Fin T (mkF m pc Ls st) := by
  subst hst
  obtain ⟨cq, q1, q2⟩ := E.cell
  obtain ⟨v, _, ⟨T2, L2, k2, n2⟩, -, X2, ⟨Lc2, hQ2, l2, y2, z2⟩, st2⟩ := X.privateBack hx (y := y) hown (mvT hZ w1) (mvT hZ w2) (own_selp (mvT hZ wi) (mvP hZ wp) (mvT hZ w2) hy) (Cond.privateMethod_at (mvP hZ wp (args := #[]))) (mvT hZ w4) hy (backOf (W := W) hM hZ w4 w3 hf hl) (g := (mkF m pc Ls (argsL.reverse ++ .ref a :: rest))) rfl hml (Steps.refl _) (a := a) (by rw [eT]; exact q1) q2 (argsL := argsL) (rest := rest) (lenOf pd hlen) rfl (by show 2 * 0 + _ ≤ _; omega) hd (fun _ _ => ⟨rfl, eT, hc, hs⟩)
  dsimp only [Pt.U, Pt.locs, Pt.cells, Pt.slots] at X2 l2 y2 z2 st2 hQ2
  subst l2 y2 z2
  exact own_by (fun t kk => st2.trans kk) (g v T2 Lc2 X2 hQ2)
/-- an interface's method by the contract of the body that the receiver's class selects -/
theorem own_callI (X : Stand p l e R s m args below meth c T locs cells slots) (hx : p.tables.exec = Jvm.exec) (hZ : Z.Warmed39 s.vm) {own C : String} {index count : Nat} {xi y : MethodName} {bytes : ByteArray} {maxL W : Nat} {ret : Option FieldType} {rm : Room} {Qc : Option Value → Heap → List Loc → Prop}
    (hown : s.vm.findClass own = some m.cls) (w1 : (Cond.methodLink own index xi).before a0 Z = true) (wd : (Cond.declares xi).before a0 Z = true) (wf : (Cond.interfaceMethod xi.cls xi.cls xi.name xi.desc).before a0 Z = true) (hwf : ((Cond.interfaceMethod xi.cls xi.cls xi.name xi.desc).onTables && (Cond.interfaceMethod xi.cls xi.cls xi.name xi.desc).keepsFace) = true) (ws : (Cond.selects C xi y).before a0 Z = true) (w2 : (Cond.instanceMethod y).before a0 Z = true) (wp : (Cond.publicMethod y).before a0 Z = true) (wu : (Cond.unhidden C xi.name xi.desc).before a0 Z = true) (wc : (Cond.castable C xi.cls).before a0 Z = true) (w3 : (Cond.initialized y.cls).before a0 Z = true) (w4 : (Cond.code y bytes maxL ret).before a0 Z = true)
    (hy : xi.cls ≠ "java/lang/invoke/MethodHandle" ∧ xi.cls ≠ "java/lang/invoke/VarHandle") (hml : Ls.size = c.maxLocals) {a : Addr} {argsL : List Value} {ps : List FieldType} {rt : Option FieldType} (pd : parseMethodDescriptor xi.desc = some ⟨ps, rt⟩) (hlen : argsL.length = ps.length)
    (eT : T.heap = h) (E : Exa Z h a C)
    (hM : MetFree l y (head1 [Cond.code y bytes maxL ret] rm) (fun b U => b = (.ref a :: argsL).toArray ∧ Z.Warmed39 U.vm ∧ U.heap = h) (fun _ _ _ _ _ => True) (fun _ U o U' => ∃ v L, o = .returned v ∧ Qc v U'.heap L ∧ FrameEnd U o U' L rm.cells rm.slots))
    (hf : rm.frames + 1 ≤ R.frames) (hl : W + (maxL + 11) + rm.locals ≤ R.locals) (hW : (rest.map fun v => v.category).sum ≤ W) (hc : cells + rm.cells ≤ R.cells) (hs : slots + rm.slots ≤ R.slots) {st : List Value} (hst : st = argsL.reverse ++ .ref a :: rest) (hd : decode c.code pc = .ok (.invokeinterface index count, 5))
    (g : ∀ (v : Option Value) (T' : State) (L : List Loc), Stand p l e R s m args below meth c T' (locs ++ L) (cells + rm.cells) (slots + rm.slots) → Qc v T'.heap L → own_Go p e below Fin T' (mkF m (pc + 5) Ls (v.toList ++ rest))) :
    own_Go p e below Fin T (mkF m pc Ls st) := by
  subst hst
  obtain ⟨cq, kq, qa, qb, qc⟩ := isOf hZ eT E
  obtain ⟨v, _, ⟨T2, L2, k2, n2⟩, -, X2, ⟨Lc2, hQ2, l2, y2, z2⟩, st2⟩ := X.interfaceBack hx (xi := xi) (y := y) hown (mvT hZ w1) (mvT hZ wd) (mvT hZ wf hwf) (mvT hZ ws) (mvT hZ w2) (mvT hZ wp) (mvT hZ wu) (mvT hZ wc) hy (backOf (W := W) hM hZ w4 w3 hf hl) qa qb qc (g := (mkF m pc Ls (argsL.reverse ++ .ref a :: rest))) rfl hml (Steps.refl _) (argsL := argsL) (rest := rest) (lenOf pd hlen) rfl (by show 2 * 0 + _ ≤ _; omega) hd (fun _ _ => ⟨rfl, eT, hc, hs⟩)
  dsimp only [Pt.U, Pt.locs, Pt.cells, Pt.slots] at X2 l2 y2 z2 st2 hQ2
  subst l2 y2 z2
  exact own_by (fun t kk => st2.trans kk) (g v T2 Lc2 X2 hQ2)
theorem own_cast (X : Stand p l e R s m args below meth c T locs cells slots) (hx : p.tables.exec = Jvm.exec) (hZ : Z.Warmed39 s.vm) {own K : String} {index : Nat} (hown : s.vm.findClass own = some m.cls) (w : (Cond.classLink own index K).before a0 Z = true) (eT : T.heap = h) {a : Addr} (F : Ins Z h a K true) (hd : decode c.code pc = .ok (.checkcast index, 3))
    (g : ∀ T', Stand p l e R s m args below meth c T' locs cells slots → T'.heap = h → own_Go p e below Fin T' (mkF m (pc + 3) Ls (.ref a :: rest))) : own_Go p e below Fin T (mkF m pc Ls (.ref a :: rest)) := by
  obtain ⟨T', X', e', st⟩ := castY X hx hZ hown w eT F (g := mkF m pc Ls (.ref a :: rest)) rfl rfl hd
  exact own_by (fun t kk => st _ kk) (g T' X' e')
theorem own_inst (X : Stand p l e R s m args below meth c T locs cells slots) (hx : p.tables.exec = Jvm.exec) (hZ : Z.Warmed39 s.vm) {own K : String} {index : Nat} (hown : s.vm.findClass own = some m.cls) (w : (Cond.classLink own index K).before a0 Z = true) (eT : T.heap = h) {a : Addr} (F : Ins Z h a K true) (hd : decode c.code pc = .ok (.instanceof index, 3))
    (g : ∀ T', Stand p l e R s m args below meth c T' locs cells slots → T'.heap = h → own_Go p e below Fin T' (mkF m (pc + 3) Ls (.int (1 : Int32) :: rest))) : own_Go p e below Fin T (mkF m pc Ls (.ref a :: rest)) := by
  obtain ⟨T', X', e', st⟩ := instY X hx hZ hown w eT F (g := mkF m pc Ls (.ref a :: rest)) rfl rfl hd
  exact own_by (fun t kk => st _ kk) (g T' X' e')
end OwnCall
section OwnArr
variable {p : Program} {l : Launch} {e : Env} {R : Room} {s : State} {m : MethodId} {args : Array Value} {below : List Frame} {meth : Method} {c : Code} {T T' : State} {locs : List Loc} {cells slots : Nat} {Q : Option Value → Heap → List Loc → Prop} {k n : Nat} {Fin : Outcome → State → Prop} {Z : State} {a0 : Array Value} {h h' : Heap} {pc : Nat} {Ls : Array Slot} {rest : List Value}
/-- the array at a holds just vs -/
def own_Arr (Z : State) (h : Heap) (a : Addr) (ty : FieldType) (vs : List Value) : Prop := ∃ cl : Cell, Arr Z h a cl ty ∧ cl.slots = vs.toArray ∧ vs.length < 2 ^ 31 ∧ ∀ v ∈ vs, fits ty v = true
section Facts
variable {a b : Addr} {ty : FieldType} {vs : List Value} {sl : Nat} {v : Value} {ws : List Addr}
theorem own_Arr.lt (F : own_Arr Z h a ty vs) : a < h.size := by obtain ⟨c, A, -⟩ := F; exact A.lt
theorem own_Arr.ext (F : own_Arr Z h a ty vs) (E : Ext h h') : own_Arr Z h' a ty vs := by obtain ⟨c, A, r⟩ := F; exact ⟨c, A.ext E, r⟩
theorem own_Arr.other (F : own_Arr Z h b ty vs) (W : Wr h h' a sl v) (q : b ≠ a) : own_Arr Z h' b ty vs := by obtain ⟨c, A, r⟩ := F; exact ⟨c, A.other W q, r⟩
theorem own_Arr.keep (F : own_Arr Z h a ty vs) (K : Keep h h' ws) (q : a ∉ ws) : own_Arr Z h' a ty vs := by obtain ⟨c, A, r⟩ := F; exact ⟨c, ⟨K.2.1 a c A.1 q, A.2⟩, r⟩
theorem own_Arr.set (F : own_Arr Z h a ty vs) (W : Wr h h' a sl v) (hv : fits ty v = true) : own_Arr Z h' a ty (vs.set sl v) := by
  obtain ⟨c, A, r1, r2, r3⟩ := F
  refine ⟨_, A.same W, ?_, by simpa using r2, fun u hu => ?_⟩
  rotate_left
  · rcases List.mem_or_eq_of_mem_set hu with q | q
    · exact r3 u q
    · rw [q]; exact hv
  show c.slots.setIfInBounds sl v = _
  rw [r1]; simp
theorem own_idx {j : Int32} {i : Nat} (hj : j.toInt = (i : Int)) : j.toNatClampNeg = i ∧ ¬ j < 0 := by
  constructor
  · show j.toInt.toNat = i
    rw [hj]; simp
  · rw [Int32.lt_iff_toInt_lt, hj]
    have : (0 : Int32).toInt = 0 := by decide
    omega
theorem own_inb {cl : Cell} {j : Int32} {i : Nat} (hj : j.toInt = (i : Int)) (hs : cl.slots = vs.toArray) (hi : i < vs.length) : ¬ (j < 0 ∨ cl.slots.size ≤ j.toNatClampNeg) := by
  obtain ⟨q1, q2⟩ := own_idx hj
  rw [q1, hs]
  intro q
  rcases q with q | q
  · exact q2 q
  · simp at q; omega
theorem own_lt_of {i : Nat} {v : Value} (hv : vs[i]? = some v) : i < vs.length := (List.getElem?_eq_some_iff.mp hv).1
theorem own_Arr.new {cA : ClassId} {j : Int32} {i : Nat} (A : Arr Z h a (newA cA ty j) ty) (hj : j.toInt = (i : Int)) : own_Arr Z h a ty (List.replicate i (defaultValue ty)) := by
  refine ⟨_, A, ?_, ?_, fun u hu => ?_⟩
  rotate_left 2
  · rw [(List.mem_replicate.mp hu).2]
    cases ty <;> rfl
  · show Array.replicate j.toNatClampNeg (defaultValue ty) = _
    rw [(own_idx hj).1]; simp
  · have := Int32.toInt_lt j
    simp; omega
end Facts
theorem own_newP (X : Stand p l e R s m args below meth c T locs cells slots) (hx : p.tables.exec = Jvm.exec) (hZ : Z.Warmed39 s.vm) {aty : ArrayType} (w : (Cond.arrayClass (newarray.typeOf aty)).before a0 Z = true) (eT : T.heap = h) (hd : decode c.code pc = .ok (.newarray aty, 2)) {j : Int32} (i cap : Nat) (hj : j.toInt = (i : Int)) (hcap : i ≤ cap) (hb : cap * 8 ≤ 536870912) (hc : cells + 1 ≤ R.cells) (hl : slots + cap ≤ R.slots)
    (g : ∀ T' h' (b : Addr), Stand p l e R s m args below meth c T' locs (cells + 1) (slots + cap) → T'.heap = h' → b = h.size → Ext h h' → own_Arr Z h' b (newarray.typeOf aty) (List.replicate i (defaultValue (newarray.typeOf aty))) → own_Go p e below Fin T' (mkF m (pc + 2) Ls (.ref b :: rest))) : own_Go p e below Fin T (mkF m pc Ls (.int j :: rest)) := by
  obtain ⟨q1, q2⟩ := own_idx hj
  obtain ⟨T', h', cA, X', e', E', A', st⟩ := newP X hx hZ w eT (g := mkF m pc Ls (.int j :: rest)) rfl hd rfl q2 (cap := cap) (by rw [q1]; exact hcap) hb hc hl
  exact own_by (fun t kk => st _ kk) (g T' h' _ X' e' rfl E' (own_Arr.new A' hj))
theorem own_iastore (X : Stand p l e R s m args below meth c T locs cells slots) (hx : p.tables.exec = Jvm.exec) (hZ : Z.Warmed39 s.vm) (eT : T.heap = h) {a : Addr} {vs : List Value} (A : own_Arr Z h a .int vs) {j x : Int32} (i : Nat) (hj : j.toInt = (i : Int)) (hi : i < vs.length) (hd : decode c.code pc = .ok (.iastore, 1))
    (g : ∀ T' h', Stand p l e R s m args below meth c T' (locs ++ [⟨a, i⟩]) cells slots → T'.heap = h' → Wr h h' a i (.int x) → own_Arr Z h' a .int (vs.set i (.int x)) → own_Go p e below Fin T' (mkF m (pc + 1) Ls rest)) : own_Go p e below Fin T (mkF m pc Ls (.int x :: .int j :: .ref a :: rest)) := by
  have A' := A
  obtain ⟨cl, A1, r1, r2⟩ := A
  obtain ⟨T', h', X', e', W', st⟩ := stI X hx hZ eT A1 (own_inb hj r1 hi) (g := mkF m pc Ls (.int x :: .int j :: .ref a :: rest)) rfl rfl hd
  rw [(own_idx hj).1] at X' W'
  exact own_by (fun t kk => st _ kk) (g T' h' X' e' W' (A'.set W' rfl))
theorem own_iaload (X : Stand p l e R s m args below meth c T locs cells slots) (hx : p.tables.exec = Jvm.exec) (hZ : Z.Warmed39 s.vm) (eT : T.heap = h) {a : Addr} {vs : List Value} (A : own_Arr Z h a .int vs) {j : Int32} {v : Value} (i : Nat) (hj : j.toInt = (i : Int)) (hv : vs[i]? = some v) (hd : decode c.code pc = .ok (.iaload, 1))
    (g : own_Go p e below Fin T (mkF m (pc + 1) Ls (v :: rest))) : own_Go p e below Fin T (mkF m pc Ls (.int j :: .ref a :: rest)) := by
  obtain ⟨cl, A1, r1, r2⟩ := A
  exact own_by (fun t kk => X.iaload hx (j := j) (v := v) (by rw [eT]; exact A1.1) (State.isArrayOf_alike hZ.alike A1.2.1) A1.2.2 (own_inb hj r1 (own_lt_of hv)) (by rw [(own_idx hj).1, r1]; simpa using hv) (g := mkF m pc Ls (.int j :: .ref a :: rest)) rfl rfl hd _ kk) g
theorem own_caload (X : Stand p l e R s m args below meth c T locs cells slots) (hx : p.tables.exec = Jvm.exec) (hZ : Z.Warmed39 s.vm) (eT : T.heap = h) {a : Addr} {vs : List Value} (A : own_Arr Z h a .char vs) {j : Int32} {v : Value} (i : Nat) (hj : j.toInt = (i : Int)) (hv : vs[i]? = some v) (hd : decode c.code pc = .ok (.caload, 1))
    (g : own_Go p e below Fin T (mkF m (pc + 1) Ls (v :: rest))) : own_Go p e below Fin T (mkF m pc Ls (.int j :: .ref a :: rest)) := by
  obtain ⟨cl, A1, r1, r2⟩ := A
  exact own_by (fun t kk => X.caload hx (j := j) (v := v) (by rw [eT]; exact A1.1) (State.isArrayOf_alike hZ.alike A1.2.1) A1.2.2 (own_inb hj r1 (own_lt_of hv)) (by rw [(own_idx hj).1, r1]; simpa using hv) (g := mkF m pc Ls (.int j :: .ref a :: rest)) rfl rfl hd _ kk) g
theorem own_baload (X : Stand p l e R s m args below meth c T locs cells slots) (hx : p.tables.exec = Jvm.exec) (hZ : Z.Warmed39 s.vm) (eT : T.heap = h) {a : Addr} {vs : List Value} (A : own_Arr Z h a .byte vs) {j : Int32} {v : Value} (i : Nat) (hj : j.toInt = (i : Int)) (hv : vs[i]? = some v) (hd : decode c.code pc = .ok (.baload, 1))
    (g : own_Go p e below Fin T (mkF m (pc + 1) Ls (v :: rest))) : own_Go p e below Fin T (mkF m pc Ls (.int j :: .ref a :: rest)) := by
  obtain ⟨cl, A1, r1, r2⟩ := A
  exact own_by (fun t kk => X.baloadBytes hx (j := j) (v := v) (by rw [eT]; exact A1.1) (State.isArrayOf_alike hZ.alike A1.2.1) A1.2.2 (own_inb hj r1 (own_lt_of hv)) (by rw [(own_idx hj).1, r1]; simpa using hv) (g := mkF m pc Ls (.int j :: .ref a :: rest)) rfl rfl hd _ kk) g
theorem own_laload (X : Stand p l e R s m args below meth c T locs cells slots) (hx : p.tables.exec = Jvm.exec) (hZ : Z.Warmed39 s.vm) (eT : T.heap = h) {a : Addr} {vs : List Value} (A : own_Arr Z h a .long vs) {j : Int32} {v : Value} (i : Nat) (hj : j.toInt = (i : Int)) (hv : vs[i]? = some v) (hd : decode c.code pc = .ok (.laload, 1))
    (g : own_Go p e below Fin T (mkF m (pc + 1) Ls (v :: rest))) : own_Go p e below Fin T (mkF m pc Ls (.int j :: .ref a :: rest)) := by
  obtain ⟨cl, A1, r1, r2⟩ := A
  exact own_by (fun t kk => X.laload hx (j := j) (v := v) (by rw [eT]; exact A1.1) (State.isArrayOf_alike hZ.alike A1.2.1) A1.2.2 (own_inb hj r1 (own_lt_of hv)) (by rw [(own_idx hj).1, r1]; simpa using hv) (g := mkF m pc Ls (.int j :: .ref a :: rest)) rfl rfl hd _ kk) g
theorem own_castore (X : Stand p l e R s m args below meth c T locs cells slots) (hx : p.tables.exec = Jvm.exec) (hZ : Z.Warmed39 s.vm) (eT : T.heap = h) {a : Addr} {vs : List Value} (A : own_Arr Z h a .char vs) {j : Int32} {x : Int32} (i : Nat) (hj : j.toInt = (i : Int)) (hi : i < vs.length) (hd : decode c.code pc = .ok (.castore, 1))
    (g : ∀ T' h', Stand p l e R s m args below meth c T' (locs ++ [⟨a, i⟩]) cells slots → T'.heap = h' → Wr h h' a i (.int (nar .char x)) → own_Arr Z h' a .char (vs.set i (.int (nar .char x))) → own_Go p e below Fin T' (mkF m (pc + 1) Ls rest)) : own_Go p e below Fin T (mkF m pc Ls (.int x :: .int j :: .ref a :: rest)) := by
  have A' := A
  obtain ⟨cl, A1, r1, r2⟩ := A
  obtain ⟨T', h', X', e', W', st⟩ := stC X hx hZ eT A1 (own_inb hj r1 hi) (g := mkF m pc Ls (.int x :: .int j :: .ref a :: rest)) rfl rfl hd
  rw [(own_idx hj).1] at X' W'
  exact own_by (fun t kk => st _ kk) (g T' h' X' e' W' (A'.set W' (fits_nar_char _)))
theorem own_bastore (X : Stand p l e R s m args below meth c T locs cells slots) (hx : p.tables.exec = Jvm.exec) (hZ : Z.Warmed39 s.vm) (eT : T.heap = h) {a : Addr} {vs : List Value} (A : own_Arr Z h a .byte vs) {j : Int32} {x : Int32} (i : Nat) (hj : j.toInt = (i : Int)) (hi : i < vs.length) (hd : decode c.code pc = .ok (.bastore, 1))
    (g : ∀ T' h', Stand p l e R s m args below meth c T' (locs ++ [⟨a, i⟩]) cells slots → T'.heap = h' → Wr h h' a i (.int (nar .byte x)) → own_Arr Z h' a .byte (vs.set i (.int (nar .byte x))) → own_Go p e below Fin T' (mkF m (pc + 1) Ls rest)) : own_Go p e below Fin T (mkF m pc Ls (.int x :: .int j :: .ref a :: rest)) := by
  have A' := A
  obtain ⟨cl, A1, r1, r2⟩ := A
  obtain ⟨T', h', X', e', W', st⟩ := stB X hx hZ eT A1 (own_inb hj r1 hi) (g := mkF m pc Ls (.int x :: .int j :: .ref a :: rest)) rfl rfl hd
  rw [(own_idx hj).1] at X' W'
  exact own_by (fun t kk => st _ kk) (g T' h' X' e' W' (A'.set W' (fits_nar_byte _)))
theorem own_lastore (X : Stand p l e R s m args below meth c T locs cells slots) (hx : p.tables.exec = Jvm.exec) (hZ : Z.Warmed39 s.vm) (eT : T.heap = h) {a : Addr} {vs : List Value} (A : own_Arr Z h a .long vs) {j : Int32} {x : Int64} (i : Nat) (hj : j.toInt = (i : Int)) (hi : i < vs.length) (hd : decode c.code pc = .ok (.lastore, 1))
    (g : ∀ T' h', Stand p l e R s m args below meth c T' (locs ++ [⟨a, i⟩]) cells slots → T'.heap = h' → Wr h h' a i (.long x) → own_Arr Z h' a .long (vs.set i (.long x)) → own_Go p e below Fin T' (mkF m (pc + 1) Ls rest)) : own_Go p e below Fin T (mkF m pc Ls (.long x :: .int j :: .ref a :: rest)) := by
  have A' := A
  obtain ⟨cl, A1, r1, r2⟩ := A
  obtain ⟨T', h', X', e', W', st⟩ := stJ X hx hZ eT A1 (own_inb hj r1 hi) (g := mkF m pc Ls (.long x :: .int j :: .ref a :: rest)) rfl rfl hd
  rw [(own_idx hj).1] at X' W'
  exact own_by (fun t kk => st _ kk) (g T' h' X' e' W' (A'.set W' rfl))
theorem own_alen (X : Stand p l e R s m args below meth c T locs cells slots) (hx : p.tables.exec = Jvm.exec) (hZ : Z.Warmed39 s.vm) (eT : T.heap = h) {a : Addr} {ty : FieldType} {vs : List Value} (A : own_Arr Z h a ty vs) (hd : decode c.code pc = .ok (.arraylength, 1))
    (g : own_Go p e below Fin T (mkF m (pc + 1) Ls (.int vs.length.toInt32 :: rest))) : own_Go p e below Fin T (mkF m pc Ls (.ref a :: rest)) := by
  obtain ⟨cl, A1, r1, r2⟩ := A
  have hl : cl.slots.size = vs.length := by rw [r1]; simp
  rw [← hl] at g
  exact own_by (fun t kk => X.arraylength hx (by rw [eT]; exact A1.1) (State.isArrayOf_alike hZ.alike A1.2.1) (g := mkF m pc Ls (.ref a :: rest)) rfl rfl hd _ kk) g
theorem own_Arr.nostat {a : Addr} {ty : FieldType} {vs : List Value} (F : own_Arr Z h a ty vs) : ∀ cell : Cell, h[a]? = some cell → cell.vm.isStatics = false := by obtain ⟨c, A, -⟩ := F; exact A.nostat
theorem own_exa_arr {a b : Addr} {C : String} {kk : Nat} {ty : FieldType} {vs : List Value} (F : Exa Z h a C) (wi : (Cond.instantiable C kk).before a0 Z = true) (G : own_Arr Z h b ty vs) : a ≠ b := by
  obtain ⟨c, A, -⟩ := G
  exact ne_arr F wi A
theorem own_Arr.len {a : Addr} {ty : FieldType} {vs : List Value} (F : own_Arr Z h a ty vs) : vs.length < 2 ^ 31 := by obtain ⟨c, -, -, q, -⟩ := F; exact q
theorem own_getD {vs : List Value} {i : Nat} (hi : i < vs.length) (d : Value) : vs.getD i d = vs[i] := by simp [List.getD, hi]
theorem own_Arr.arv {a : Addr} {ty : FieldType} {vs : List Value} (F : own_Arr Z h a ty vs) (dv : Value) : ∃ kk, Arv Z h a kk ty vs.length.toInt32 vs dv := by
  obtain ⟨cl, A, r1, r2, r3⟩ := F
  have e1 : vs.length.toInt32.toInt = vs.length := len_toInt r2
  have e2 := own_idx e1
  have hs : cl.slots.size = vs.length := by rw [r1]; simp
  refine ⟨cl.cls, cl, A, rfl, by rw [hs, e2.1], e2.2, fun i hi => ?_, fun i hi => ?_⟩
  · rw [hs] at hi
    rw [own_getD hi, r1]; simp [hi]
  · rw [hs] at hi
    rw [own_getD hi]; exact r3 _ (List.getElem_mem hi)
theorem own_Arr.of_arv {a : Addr} {kk : ClassId} {ty : FieldType} {z : Int32} {vs : List Value} {dv : Value} (F : Arv Z h a kk ty z vs dv) (hl : z.toNatClampNeg = vs.length) : own_Arr Z h a ty vs := by
  obtain ⟨cl, A, -, q1, q2, H, G⟩ := F
  have hs : cl.slots.size = vs.length := q1.trans hl
  refine ⟨cl, A, ?_, ?_, fun v hv => ?_⟩
  · apply Array.ext'
    apply List.ext_getElem?
    intro i
    by_cases hi : i < vs.length
    · have := H i (by rw [hs]; exact hi)
      rw [own_getD hi] at this
      have q2 : (vs.toArray.toList)[i]? = some vs[i] := by simp [hi]
      rw [q2, Array.getElem?_toList]
      exact this
    · have h1 : cl.slots.toList[i]? = none := by rw [List.getElem?_eq_none_iff]; simp; omega
      have h2 : (vs.toArray.toList)[i]? = none := by rw [List.getElem?_eq_none_iff]; simp; omega
      rw [h1, h2]
  · rw [← hl]
    have := z.toInt_lt
    show z.toInt.toNat < 2 ^ 31
    omega
  · obtain ⟨i, hi, rfl⟩ := List.getElem_of_mem hv
    have := G i (by rw [hs]; exact hi)
    rwa [own_getD hi] at this
end OwnArr
section OwnList
/-- the list us written from the place i on -/
def own_put (vs : List Value) : Nat → List Int32 → List Value
  | _, [] => vs
  | i, u :: us => own_put (vs.set i (.int u)) (i + 1) us
theorem own_put_len : ∀ (us : List Int32) (vs : List Value) (i : Nat), (own_put vs i us).length = vs.length
  | [], vs, i => rfl
  | u :: us, vs, i => by rw [own_put, own_put_len us]; simp
/-- from the place i on the array holds xs -/
def own_At (vs : List Value) : Nat → List Int32 → Prop
  | _, [] => True
  | i, x :: xs => vs[i]? = some (.int x) ∧ own_At vs (i + 1) xs
theorem own_At_app : ∀ (xs ys : List Int32) (vs : List Value) (i : Nat), own_At vs i xs → own_At vs (i + xs.length) ys → own_At vs i (xs ++ ys)
  | [], ys, vs, i, _, h => by simpa using h
  | x :: xs, ys, vs, i, h, h' => by
    have e : i + 1 + xs.length = i + (x :: xs).length := by
      simp; omega
    exact ⟨h.1, own_At_app xs ys vs (i + 1) h.2 (by rw [e]; exact h')⟩
theorem own_put_lo : ∀ (us : List Int32) (vs : List Value) (i j : Nat), j < i → (own_put vs i us)[j]? = vs[j]?
  | [], vs, i, j, _ => rfl
  | u :: us, vs, i, j, h => by rw [own_put, own_put_lo us _ _ _ (by omega), List.getElem?_set_ne (by omega)]
theorem own_put_At : ∀ (us : List Int32) (vs : List Value) (i : Nat), i + us.length ≤ vs.length → own_At (own_put vs i us) i us
  | [], vs, i, _ => trivial
  | u :: us, vs, i, h => by
    have h' : i + 1 + us.length ≤ vs.length := by simp at h; omega
    refine ⟨?_, own_put_At us _ (i + 1) (by simpa using h')⟩
    rw [own_put, own_put_lo us _ _ _ (by omega)]
    have hi : i < vs.length := by simp at h; omega
    simp [hi]
theorem own_inc {x : Int32} {i : Nat} (h : x.toInt = (i : Int)) (hi : i + 1 < 2 ^ 31) : (x + 1).toInt = ((i + 1 : Nat) : Int) := by
  have k : (1 : Int32).toInt = 1 := by decide
  have e : (x + 1).toInt = x.toInt + (1 : Int32).toInt := Jvm.Kit.i32_add (by omega) (by omega)
  rw [e, h, k]; omega
theorem own_nlt {x y : Int32} {i j : Nat} (hx : x.toInt = (i : Int)) (hy : y.toInt = (j : Int)) (q : j ≤ i) : ¬ x < y := by rw [Int32.lt_iff_toInt_lt]; omega
theorem own_ilt {x y : Int32} {i j : Nat} (hx : x.toInt = (i : Int)) (hy : y.toInt = (j : Int)) (q : i < j) : x < y := by rw [Int32.lt_iff_toInt_lt]; omega
end OwnList
section OwnWide
variable {p : Program} {l : Launch} {e : Env} {R : Room} {s : State} {vm0 : Vm} {k0 : Nat} {m : MethodId} {args : Array Value} {below : List Frame} {meth : Method} {c : Code} {T T' : State} {locs : List Loc} {cells slots : Nat} {Q : Option Value → Heap → List Loc → Prop} {k n : Nat} {Fin : Outcome → State → Prop} {Z : State} {a0 : Array Value} {h : Heap} {pc : Nat} {Ls : Array Slot} {rest : List Value}
theorem own_ret_w (X : Stand p l e R (s.setVm vm0) m args below meth c T locs cells slots) (hx : p.tables.exec = Jvm.exec) (hS : s.Since vm0 k0) (hk0 : k0 ≤ h.size) (hlk : meth.locks = false) {w : Value} {t : FieldType} {i : Instr} (hret : meth.sig.returnType = some t)
    (hi : (i = .ireturn ∧ (t = .int ∨ t = .boolean ∨ t = .byte ∨ t = .char ∨ t = .short) ∧ ∃ z, w = .int z) ∨ (i = .lreturn ∧ t = .long ∧ ∃ z, w = .long z) ∨ (i = .dreturn ∧ t = .double ∧ ∃ z, w = .double z) ∨ (i = .freturn ∧ t = .float ∧ ∃ z, w = .float z) ∨ (i = .areturn ∧ t.isReference = true ∧ w.isRef = true))
    (hn : narrow t w = w) (hd : decode c.code pc = .ok (i, 1)) (eT : T.heap = h) (hk : cells ≤ k) (hs : slots ≤ n) (q : Q (some w) h locs) : own_Go p e below (own_FinW s Q k n) T (mkF m pc Ls (w :: rest)) := by
  obtain ⟨fs, hr, hrun, hended, hE⟩ := X.leaveW hS (by rw [eT]; exact hk0) (v := some w) (fun h => by rw [hret] at h; cases h) hlk
  refine ⟨_, _, retOut X hx hret hn hi hd hr, hrun, hended, _, _, rfl, ?_, hE.1, hE.2.1, hE.2.2.1, hE.2.2.2.mono hk hs⟩
  show Q _ T.heap _
  rw [eT]; exact q
theorem own_retIw (X : Stand p l e R (s.setVm vm0) m args below meth c T locs cells slots) (hx : p.tables.exec = Jvm.exec) (hS : s.Since vm0 k0) (hk0 : k0 ≤ h.size) (hlk : meth.locks = false) {z : Int32} (hret : meth.sig.returnType = some .int) (hd : decode c.code pc = .ok (.ireturn, 1)) (eT : T.heap = h) (hk : cells ≤ k) (hs : slots ≤ n) (q : Q (some (.int z)) h locs) : own_Go p e below (own_FinW s Q k n) T (mkF m pc Ls (.int z :: rest)) :=
  own_ret_w X hx hS hk0 hlk hret (Or.inl ⟨rfl, Or.inl rfl, z, rfl⟩) rfl hd eT hk hs q
theorem own_retZw (X : Stand p l e R (s.setVm vm0) m args below meth c T locs cells slots) (hx : p.tables.exec = Jvm.exec) (hS : s.Since vm0 k0) (hk0 : k0 ≤ h.size) (hlk : meth.locks = false) {z : Int32} (hret : meth.sig.returnType = some .boolean) (hz : z = 0 ∨ z = 1) (hd : decode c.code pc = .ok (.ireturn, 1)) (eT : T.heap = h) (hk : cells ≤ k) (hs : slots ≤ n) (q : Q (some (.int z)) h locs) : own_Go p e below (own_FinW s Q k n) T (mkF m pc Ls (.int z :: rest)) :=
  own_ret_w X hx hS hk0 hlk hret (Or.inl ⟨rfl, Or.inr (Or.inl rfl), z, rfl⟩) (by rcases hz with rfl | rfl <;> rfl) hd eT hk hs q
theorem own_retRw (X : Stand p l e R (s.setVm vm0) m args below meth c T locs cells slots) (hx : p.tables.exec = Jvm.exec) (hS : s.Since vm0 k0) (hk0 : k0 ≤ h.size) (hlk : meth.locks = false) {w : Value} {t : FieldType} (hret : meth.sig.returnType = some t) (ht : t.isReference = true) (hw : w.isRef = true) (hn : narrow t w = w) (hd : decode c.code pc = .ok (.areturn, 1)) (eT : T.heap = h) (hk : cells ≤ k) (hs : slots ≤ n) (q : Q (some w) h locs) : own_Go p e below (own_FinW s Q k n) T (mkF m pc Ls (w :: rest)) :=
  own_ret_w X hx hS hk0 hlk hret (Or.inr (Or.inr (Or.inr (Or.inr ⟨rfl, ht, hw⟩)))) hn hd eT hk hs q
/-- ldc of a String constant: it hands out some object -/
theorem own_ldcS (X : Stand p l e R (s.setVm vm0) m args below meth c T locs cells slots) (hx : p.tables.exec = Jvm.exec) (hZ : Z.Warmed39 vm0) {own text : String} {index : Nat} (hown : vm0.findClass own = some m.cls) (w : (Cond.stringLink own index text).before a0 Z = true) (wS : ∀ a ∈ Bundle.stringAtoms, a.before a0 Z = true) (eT : T.heap = h) (hS : s.Since vm0 k0) (hk : k0 ≤ h.size) (hd : decode c.code pc = .ok (.ldc index, 2)) (nn : Nat) (hn : 4 * text.toList.length ≤ nn) (hbig : nn ≤ 536870912) (hc : cells + 2 ≤ R.cells) (hl : slots + (nn + 4) ≤ R.slots) {st0 : List Value}
    (g : ∀ (a : Addr) (T' : State) (h' : Heap) (k1 : Nat), Stand p l e R (s.setVm T'.vm) m args below meth c T' locs (cells + 2) (slots + (nn + 4)) → T'.heap = h' → Ext h h' → s.Since T'.vm k1 → k1 ≤ h'.size → Z.Warmed39 (s.setVm T'.vm).vm → (s.setVm T'.vm).vm.findClass own = some m.cls → own_Go p e below Fin T' (mkF m (pc + 2) Ls (.ref a :: st0))) : own_Go p e below Fin T (mkF m pc Ls st0) := by
  obtain ⟨a, T', h', k1, X', e', E', S', k', Z', o', st⟩ := ldcS X hx hZ hown w wS eT hS hk (g := mkF m pc Ls st0) rfl hd (n := nn) hn hbig hc hl
  exact own_by (fun t kk => st _ kk) (g a T' h' k1 X' e' E' S' k' Z' o')
end OwnWide
section OwnLit
variable {p : Program} {l : Launch} {e : Env} {R : Room} {s : State} {vm0 : Vm} {k0 : Nat} {m : MethodId} {args : Array Value} {below : List Frame} {meth : Method} {c : Code} {T T' : State} {locs : List Loc} {cells slots : Nat} {Fin : Outcome → State → Prop} {Z : State} {a0 : Array Value} {h : Heap} {pc : Nat} {Ls : Array Slot} {rest : List Value} {EL : List (String × Nat)}
/-- ldc of a String constant whose text is known -/
theorem own_ldcC (X : Stand p l e R (s.setVm vm0) m args below meth c T locs cells slots) (hx : p.tables.exec = Jvm.exec) (hZ : Z.Warmed39 vm0) {own text : String} {index : Nat} (hown : vm0.findClass own = some m.cls) (w : (Cond.stringLink own index text).before a0 Z = true) (wS : ∀ a ∈ Bundle.stringAtoms, a.before a0 Z = true) (eT : T.heap = h) (hS : s.Since vm0 k0) (hk : k0 ≤ h.size) (hEL : EW Z a0 EL) (hmem : (own, index) ∈ EL) (H : CHv Z EL vm0 h) (xs : List Int32) (z : Int32)
    (ht : (∀ c ∈ text.toList, c.toNat < 256) ∧ text.toList.map (fun c => Value.int (Jvm.Lit.byteI c.toNat.toUInt16)) = xs.map Value.int) (hz : ¬ z < 0) (hzl : z.toNatClampNeg = xs.length) (hd : decode c.code pc = .ok (.ldc index, 2)) (nn : Nat) (hn : 4 * text.toList.length ≤ nn) (hbig : nn ≤ 536870912) (hc : cells + 2 ≤ R.cells) (hl : slots + (nn + 4) ≤ R.slots) {st0 : List Value}
    (g : ∀ (a : Addr) (T' : State) (h' : Heap) (k1 : Nat) (b : Addr), Stand p l e R (s.setVm T'.vm) m args below meth c T' locs (cells + 2) (slots + (nn + 4)) → T'.heap = h' → Ext h h' → s.Since T'.vm k1 → k1 ≤ h'.size → Z.Warmed39 (s.setVm T'.vm).vm → (s.setVm T'.vm).vm.findClass own = some m.cls →
      Exa Z h' a "java/lang/String" → Fld Z h' a "java/lang/String" "coder" "B" (.int 0) → Fld Z h' a "java/lang/String" "value" "[B" (.ref b) → own_Arr Z h' b .byte (xs.map Value.int) → CHr Z EL vm0 h T'.vm h' → own_Go p e below Fin T' (mkF m (pc + 2) Ls (.ref a :: st0))) : own_Go p e below Fin T (mkF m pc Ls st0) := by
  obtain ⟨a, T', h', k1, b, kk, X', e', E', S', k', Z', o', A1, A2, A3, A4, -, -, C', -, -, st⟩ := ldcCH X hx hZ hown w wS eT hS hk hEL hmem H (z := z) ht hz (by simpa using hzl) (g := mkF m pc Ls st0) rfl hd (n := nn) hn hbig hc hl
  exact own_by (fun t kk => st _ kk) (g a T' h' k1 b X' e' E' S' k' Z' o' A1 A2 A3 (own_Arr.of_arv A4 (by simpa using hzl)) C')
/-- it returned, as Q says; String constants may have been resolved, and they bear their texts -/
def own_FinH (Z : State) (EL : List (String × Nat)) (s : State) (Q : Option Value → Heap → List Loc → Prop) (k n : Nat) (o : Outcome) (t : State) : Prop := ∃ v L, o = .returned v ∧ Q v t.heap L ∧ CHr Z EL s.vm s.heap t.vm t.heap ∧ ReturnedEndW s o t L k n
theorem own_startH {f f' : JFrame} {Q : Option Value → Heap → List Loc → Prop} {k n : Nat} (q : f = f') (g : own_Go p e below (own_FinH Z EL s Q k n) T f') : ∃ s₂ o, Steps p.tables e below (T.setTop f) s₂ ∧ s₂.status = .running ∧ Ended s₂ below o ∧ ∃ v L, o = .returned v ∧ Q v s₂.heap L ∧ CHr Z EL s.vm s.heap s₂.vm s₂.heap ∧ ReturnedEndW s o s₂ L k n := by
  subst q; exact g
theorem own_retRh {h00 : Heap} {Q : Option Value → Heap → List Loc → Prop} {k n : Nat} (X : Stand p l e R (s.setVm vm0) m args below meth c T locs cells slots) (hx : p.tables.exec = Jvm.exec) (hS : s.Since vm0 k0) (hk0 : k0 ≤ h.size) (hZ : Z.Warmed39 vm0) (hEL : EW Z a0 EL) (hs0 : s.heap = h00) (HR : CHr Z EL s.vm h00 vm0 h) (hlk : meth.locks = false) {w : Value} {t : FieldType} (hret : meth.sig.returnType = some t) (ht : t.isReference = true) (hw : w.isRef = true) (hn : narrow t w = w) (hd : decode c.code pc = .ok (.areturn, 1)) (eT : T.heap = h) (hk : cells ≤ k) (hs : slots ≤ n) (q : Q (some w) h locs) : own_Go p e below (own_FinH Z EL s Q k n) T (mkF m pc Ls (w :: rest)) := by
  obtain ⟨fs, hr, hrun, hended, hE⟩ := X.leaveW hS (by rw [eT]; exact hk0) (v := some w) (fun h => by rw [hret] at h; cases h) hlk
  have C1 := HR.trans (CHv.at X hZ hEL HR.1)
  refine ⟨_, _, retOut X hx hret hn (Or.inr (Or.inr (Or.inr (Or.inr ⟨rfl, ht, hw⟩)))) hd hr, hrun, hended, _, _, rfl, ?_, ?_, hE.1, hE.2.1, hE.2.2.1, hE.2.2.2.mono hk hs⟩
  · show Q _ T.heap _
    rw [eT]; exact q
  · show CHr Z EL s.vm s.heap T.vm T.heap
    rw [eT, hs0]; exact C1
/-- a static call of a callee that loads String constants -/
theorem own_callSH (X : Stand p l e R (s.setVm vm0) m args below meth c T locs cells slots) (hx : p.tables.exec = Jvm.exec) (hZ : Z.Warmed39 vm0) {own : String} {index : Nat} {y : MethodName} {bytes : ByteArray} {maxL W : Nat} {ret : Option FieldType} {rm : Room} {Qc : Option Value → Heap → List Loc → Prop}
    (hown : vm0.findClass own = some m.cls) (w1 : (Cond.methodLink own index y).before a0 Z = true) (w2 : (Cond.static y).before a0 Z = true) (w3 : (Cond.initialized y.cls).before a0 Z = true) (w4 : (Cond.code y bytes maxL ret).before a0 Z = true)
    (hy : y.cls ≠ "java/lang/invoke/MethodHandle" ∧ y.cls ≠ "java/lang/invoke/VarHandle") (hml : Ls.size = c.maxLocals) {argsL : List Value} {ps : List FieldType} {rt : Option FieldType} (pd : parseMethodDescriptor y.desc = some ⟨ps, rt⟩) (hlen : argsL.length = ps.length)
    (hM : MetFree l y (head1 [Cond.code y bytes maxL ret] rm) (fun a U => a = argsL.toArray ∧ Z.Warmed39 U.vm ∧ U.heap = h ∧ CHv Z EL U.vm h) (fun _ _ _ _ _ => True) (fun _ U o U' => ∃ v L, o = .returned v ∧ Qc v U'.heap L ∧ CHr Z EL U.vm U.heap U'.vm U'.heap ∧ ReturnedEndW U o U' L rm.cells rm.slots))
    (hf : rm.frames + 1 ≤ R.frames) (hl : W + (maxL + 11) + rm.locals ≤ R.locals) (hW : (rest.map fun v => v.category).sum ≤ W) (hc : cells + rm.cells ≤ R.cells) (hs : slots + rm.slots ≤ R.slots) (eT : T.heap = h) {st : List Value} (hst : st = argsL.reverse ++ rest) (hd : decode c.code pc = .ok (.invokestatic index, 3))
    (hS : s.Since vm0 k0) (hk : k0 ≤ h.size) (hEL : EW Z a0 EL) (H : CHv Z EL vm0 h)
    (g : ∀ (v : Option Value) (T' : State) (L : List Loc), Stand p l e R (s.setVm T'.vm) m args below meth c T' (locs ++ L) (cells + rm.cells) (slots + rm.slots) → s.Since T'.vm T'.heap.size → Z.Warmed39 (s.setVm T'.vm).vm → (s.setVm T'.vm).vm.findClass own = some m.cls → Qc v T'.heap L → CHr Z EL vm0 h T'.vm T'.heap → own_Go p e below Fin T' (mkF m (pc + 3) Ls (v.toList ++ rest))) :
    own_Go p e below Fin T (mkF m pc Ls st) := by
  subst hst
  have hZ' : Z.Warmed39 (s.setVm vm0).vm := hZ
  obtain ⟨v, _, ⟨T2, L2, k2, n2⟩, -, X2, S2, g2, ⟨Lc2, hQ2, l2, y2, z2, C2⟩, st2⟩ := callSS X hx (y := y) hown (mvT hZ' w1) (mvT hZ' w2) (mvT hZ' w3) (mvT hZ' w4) hy (backOfSH (s := s) (W := W) hM hZ w4 w3 hf hl hEL H) (g := (mkF m pc Ls (argsL.reverse ++ rest))) rfl hml (argsL := argsL) (rest := rest) (lenOf pd hlen) rfl (by show 2 * 0 + _ ≤ _; omega) hd (fun _ _ => ⟨rfl, eT, hc, hs⟩)
  dsimp only [Pt.U, Pt.locs, Pt.cells, Pt.slots] at X2 S2 g2 l2 y2 z2 st2 hQ2 C2
  subst l2 y2 z2
  obtain ⟨X3, S3, Z3, o3⟩ := rebS hS (Nat.le_trans hk (Nat.le_of_eq (by rw [eT]))) X2 S2 g2 hZ' hown
  exact own_by (fun t kk => st2.trans kk) (g v T2 Lc2 X3 S3 Z3 o3 hQ2 C2)
end OwnLit
section OwnStart
variable {s : State} {args : Array Value} {t : Term} {a : Addr} {ty : FieldType} {cl : Cell}
theorem own_lenI {x : Int32} (h : (Cond.eq (Term.length t) (.int x)).value args s none s [] = some true) (ev : t.eval args s none [] s = some (.ref a)) (A : Arr s s.heap a cl ty) : cl.slots.size < 2 ^ 31 ∧ cl.slots.size.toInt32 = x := by
  have q := own_eqI h
  have ha : s.arrayAt? a = some cl := Arr.fin (Vm.Alike.refl _) A
  by_cases hl : cl.slots.size < 2 ^ 31
  · rw [len_f ev ha hl] at q
    exact ⟨hl, by simpa using q⟩
  · simp [Term.eval, ev, ha, hl] at q
theorem own_elemI {j x : Int32} (h : (Cond.eq (Term.elem t (.int j)) (.int x)).value args s none s [] = some true) (ev : t.eval args s none [] s = some (.ref a)) (A : Arr s s.heap a cl ty) (hj : ¬ j < 0) : cl.slots[j.toNatClampNeg]? = some (.int x) := by
  have q := own_eqI h
  have ha : s.arrayAt? a = some cl := Arr.fin (Vm.Alike.refl _) A
  rwa [elem_f ev rfl ha hj] at q
theorem own_fldI {O nm d : String} {x : Int32} (ev : t.eval args s none [] s = some (.ref a)) (h : (Cond.eq (Term.field t O nm d) (.int x)).value args s none s [] = some true) : Fld s s.heap a O nm d (.int x) :=
  Fld.start ((fld_at ev).symm.trans (own_eqI h))
theorem own_fldR {O nm d : String} {b : Addr} (ev : t.eval args s none [] s = some (.ref a)) (h : (Term.field t O nm d).eval args s none [] s = some (.ref b)) : Fld s s.heap a O nm d (.ref b) :=
  Fld.start ((fld_at ev).symm.trans h)
theorem own_arrS {xs : List Int32} (hf : Fit s) (A : Arr s s.heap a cl ty) (hl : cl.slots.size < 2 ^ 31 ∧ cl.slots.size.toInt32 = xs.length.toInt32) (hx : xs.length < 2 ^ 31) (H : HasL cl 0 (xs.map Value.int)) : own_Arr s s.heap a ty (xs.map Value.int) := by
  have e1 : xs.length.toInt32.toInt = xs.length := len_toInt hx
  have e2 := own_idx e1
  exact own_Arr.of_arv (Arv.start (dv := .int 0) hf A hl.1 hl.2 e2.2 (by rw [e2.1]; simp) H) (by rw [e2.1]; simp)
theorem own_notI {x y : Int32} (ev : t.eval args s none [] s = some (.int x)) (h : (Cond.not (Cond.eq t (.int y))).value args s none s [] = some true) : ¬ x = y := by
  have q : (Term.int y).eval args s none [] s = some (.int y) := rfl
  simpa [Cond.value, ev, q] using h
end OwnStart
theorem pn_0 : plainName "com/example/earnest_lease/earnestlease/protocol/ReplyOfPinLaw" = true := by first | (simp [plainName, overriddenIn]; done) | decide +kernel
theorem d1_0 : decode method_2_code 0 = .ok (.iload_n 0, 1) := by decide +kernel
theorem d1_1 : decode method_2_code 1 = .ok (.ifCond .ne 7, 3) := by decide +kernel
theorem d1_4 : decode method_2_code 4 = .ok (.getstatic 7, 3) := by decide +kernel
theorem d1_7 : decode method_2_code 7 = .ok (.areturn, 1) := by decide +kernel
theorem d1_8 : decode method_2_code 8 = .ok (.iload_n 0, 1) := by decide +kernel
theorem d1_9 : decode method_2_code 9 = .ok (.iconst 1, 1) := by decide +kernel
theorem d1_10 : decode method_2_code 10 = .ok (.if_icmp .ne 7, 3) := by decide +kernel
theorem d1_13 : decode method_2_code 13 = .ok (.getstatic 13, 3) := by decide +kernel
theorem d1_16 : decode method_2_code 16 = .ok (.areturn, 1) := by decide +kernel
theorem d1_17 : decode method_2_code 17 = .ok (.iload_n 0, 1) := by decide +kernel
theorem d1_18 : decode method_2_code 18 = .ok (.iconst 2, 1) := by decide +kernel
theorem d1_19 : decode method_2_code 19 = .ok (.if_icmp .ne 7, 3) := by decide +kernel
theorem d1_22 : decode method_2_code 22 = .ok (.getstatic 16, 3) := by decide +kernel
theorem d1_25 : decode method_2_code 25 = .ok (.areturn, 1) := by decide +kernel
theorem d1_26 : decode method_2_code 26 = .ok (.iload_n 0, 1) := by decide +kernel
theorem d1_27 : decode method_2_code 27 = .ok (.iconst 3, 1) := by decide +kernel
theorem d1_28 : decode method_2_code 28 = .ok (.if_icmp .ne 7, 3) := by decide +kernel
theorem d1_31 : decode method_2_code 31 = .ok (.getstatic 19, 3) := by decide +kernel
theorem d1_34 : decode method_2_code 34 = .ok (.areturn, 1) := by decide +kernel
theorem d1_35 : decode method_2_code 35 = .ok (.iload_n 0, 1) := by decide +kernel
theorem d1_36 : decode method_2_code 36 = .ok (.iconst 4, 1) := by decide +kernel
theorem d1_37 : decode method_2_code 37 = .ok (.if_icmp .ne 7, 3) := by decide +kernel
theorem d1_40 : decode method_2_code 40 = .ok (.getstatic 22, 3) := by decide +kernel
theorem d1_43 : decode method_2_code 43 = .ok (.areturn, 1) := by decide +kernel
theorem d1_44 : decode method_2_code 44 = .ok (.iload_n 0, 1) := by decide +kernel
theorem d1_45 : decode method_2_code 45 = .ok (.iconst 5, 1) := by decide +kernel
theorem d1_46 : decode method_2_code 46 = .ok (.if_icmp .ne 7, 3) := by decide +kernel
theorem d1_49 : decode method_2_code 49 = .ok (.getstatic 25, 3) := by decide +kernel
theorem d1_52 : decode method_2_code 52 = .ok (.areturn, 1) := by decide +kernel
theorem d1_53 : decode method_2_code 53 = .ok (.iload_n 0, 1) := by decide +kernel
theorem d1_54 : decode method_2_code 54 = .ok (.bipush 6, 2) := by decide +kernel
theorem d1_56 : decode method_2_code 56 = .ok (.if_icmp .ne 7, 3) := by decide +kernel
theorem d1_59 : decode method_2_code 59 = .ok (.getstatic 28, 3) := by decide +kernel
theorem d1_62 : decode method_2_code 62 = .ok (.areturn, 1) := by decide +kernel
theorem d1_63 : decode method_2_code 63 = .ok (.iload_n 0, 1) := by decide +kernel
theorem d1_64 : decode method_2_code 64 = .ok (.bipush 7, 2) := by decide +kernel
theorem d1_66 : decode method_2_code 66 = .ok (.if_icmp .ne 7, 3) := by decide +kernel
theorem d1_69 : decode method_2_code 69 = .ok (.getstatic 31, 3) := by decide +kernel
theorem d1_72 : decode method_2_code 72 = .ok (.areturn, 1) := by decide +kernel
theorem d1_73 : decode method_2_code 73 = .ok (.getstatic 34, 3) := by decide +kernel
theorem d1_76 : decode method_2_code 76 = .ok (.areturn, 1) := by decide +kernel
theorem pn_4 : plainName "java/lang/Record" = true := by first | (simp [plainName, overriddenIn]; done) | decide +kernel
theorem d4_0 : decode jdk_30_method_1_code 0 = .ok (.aload_n 0, 1) := by decide +kernel
theorem d4_1 : decode jdk_30_method_1_code 1 = .ok (.invokespecial 1, 3) := by decide +kernel
theorem d4_4 : decode jdk_30_method_1_code 4 = .ok (.return_, 1) := by decide +kernel
theorem pn_2 : plainName "com/example/earnest_lease/earnestlease/protocol/Reply" = true := by first | (simp [plainName, overriddenIn]; done) | decide +kernel
theorem d3_0 : decode prog_50_method_1_code 0 = .ok (.aload_n 0, 1) := by decide +kernel
theorem d3_1 : decode prog_50_method_1_code 1 = .ok (.invokespecial 1, 3) := by decide +kernel
theorem pd_3 : parseMethodDescriptor "()V" = some ⟨[], none⟩ := by decide +kernel
theorem d3_4 : decode prog_50_method_1_code 4 = .ok (.aload_n 0, 1) := by decide +kernel
theorem d3_5 : decode prog_50_method_1_code 5 = .ok (.aload_n 1, 1) := by decide +kernel
theorem d3_6 : decode prog_50_method_1_code 6 = .ok (.putfield 7, 3) := by decide +kernel
theorem d3_9 : decode prog_50_method_1_code 9 = .ok (.aload_n 0, 1) := by decide +kernel
theorem d3_10 : decode prog_50_method_1_code 10 = .ok (.lload_n 2, 1) := by decide +kernel
theorem d3_11 : decode prog_50_method_1_code 11 = .ok (.putfield 13, 3) := by decide +kernel
theorem d3_14 : decode prog_50_method_1_code 14 = .ok (.aload_n 0, 1) := by decide +kernel
theorem d3_15 : decode prog_50_method_1_code 15 = .ok (.aload 4, 2) := by decide +kernel
theorem d3_17 : decode prog_50_method_1_code 17 = .ok (.putfield 17, 3) := by decide +kernel
theorem d3_20 : decode prog_50_method_1_code 20 = .ok (.return_, 1) := by decide +kernel
theorem d2_0 : decode prog_50_method_4_code 0 = .ok (.new 8, 3) := by decide +kernel
theorem d2_3 : decode prog_50_method_4_code 3 = .ok (.dup, 1) := by decide +kernel
theorem d2_4 : decode prog_50_method_4_code 4 = .ok (.aload_n 0, 1) := by decide +kernel
theorem d2_5 : decode prog_50_method_4_code 5 = .ok (.lconst 0, 1) := by decide +kernel
theorem d2_6 : decode prog_50_method_4_code 6 = .ok (.ldc 29, 2) := by decide +kernel
theorem d2_8 : decode prog_50_method_4_code 8 = .ok (.invokespecial 31, 3) := by decide +kernel
theorem pd_2 : parseMethodDescriptor "(Lcom/example/earnest_lease/earnestlease/protocol/Reply$Outcome;JLjava/lang/String;)V" = some ⟨[(.object "com/example/earnest_lease/earnestlease/protocol/Reply$Outcome"), .long, (.object "java/lang/String")], none⟩ := by decide +kernel
theorem d2_11 : decode prog_50_method_4_code 11 = .ok (.areturn, 1) := by decide +kernel
theorem d6_0 : decode prog_50_method_9_code 0 = .ok (.aload_n 0, 1) := by decide +kernel
theorem d6_1 : decode prog_50_method_9_code 1 = .ok (.getfield 7, 3) := by decide +kernel
theorem d6_4 : decode prog_50_method_9_code 4 = .ok (.areturn, 1) := by decide +kernel
theorem d7_0 : decode prog_50_method_10_code 0 = .ok (.aload_n 0, 1) := by decide +kernel
theorem d7_1 : decode prog_50_method_10_code 1 = .ok (.getfield 13, 3) := by decide +kernel
theorem d7_4 : decode prog_50_method_10_code 4 = .ok (.lreturn, 1) := by decide +kernel
theorem d8_0 : decode prog_50_method_11_code 0 = .ok (.aload_n 0, 1) := by decide +kernel
theorem d8_1 : decode prog_50_method_11_code 1 = .ok (.getfield 17, 3) := by decide +kernel
theorem d8_4 : decode prog_50_method_11_code 4 = .ok (.areturn, 1) := by decide +kernel
theorem pn_9 : plainName "java/lang/String" = true := by first | (simp [plainName, overriddenIn]; done) | decide +kernel
theorem d9_0 : decode jdk_42_method_55_code 0 = .ok (.aload_n 0, 1) := by decide +kernel
theorem d9_1 : decode jdk_42_method_55_code 1 = .ok (.getfield 9, 3) := by decide +kernel
theorem d9_4 : decode jdk_42_method_55_code 4 = .ok (.arraylength, 1) := by decide +kernel
theorem d9_5 : decode jdk_42_method_55_code 5 = .ok (.ifCond .ne 7, 3) := by decide +kernel
theorem d9_8 : decode jdk_42_method_55_code 8 = .ok (.iconst 1, 1) := by decide +kernel
theorem d9_9 : decode jdk_42_method_55_code 9 = .ok (.goto 4, 3) := by decide +kernel
theorem d9_13 : decode jdk_42_method_55_code 13 = .ok (.ireturn, 1) := by decide +kernel
theorem d10_0 : decode prog_50_method_2_code 0 = .ok (.aload_n 0, 1) := by decide +kernel
theorem d10_1 : decode prog_50_method_2_code 1 = .ok (.getfield 7, 3) := by decide +kernel
theorem d10_4 : decode prog_50_method_2_code 4 = .ok (.getstatic 21, 3) := by decide +kernel
theorem d10_7 : decode prog_50_method_2_code 7 = .ok (.if_acmp .ne 7, 3) := by decide +kernel
theorem d10_14 : decode prog_50_method_2_code 14 = .ok (.iconst 0, 1) := by decide +kernel
theorem d10_15 : decode prog_50_method_2_code 15 = .ok (.ireturn, 1) := by decide +kernel
theorem d10_10 : decode prog_50_method_2_code 10 = .ok (.iconst 1, 1) := by decide +kernel
theorem d10_11 : decode prog_50_method_2_code 11 = .ok (.goto 4, 3) := by decide +kernel
theorem pd_0 : parseMethodDescriptor "(I)Lcom/example/earnest_lease/earnestlease/protocol/Reply$Outcome;" = some ⟨[.int], some (.object "com/example/earnest_lease/earnestlease/protocol/Reply$Outcome")⟩ := by decide +kernel
theorem pd_1 : parseMethodDescriptor "(Lcom/example/earnest_lease/earnestlease/protocol/Reply$Outcome;)Lcom/example/earnest_lease/earnestlease/protocol/Reply;" = some ⟨[(.object "com/example/earnest_lease/earnestlease/protocol/Reply$Outcome")], some (.object "com/example/earnest_lease/earnestlease/protocol/Reply")⟩ := by decide +kernel
theorem pd_4 : parseMethodDescriptor "()Lcom/example/earnest_lease/earnestlease/protocol/Reply$Outcome;" = some ⟨[], some (.object "com/example/earnest_lease/earnestlease/protocol/Reply$Outcome")⟩ := by decide +kernel
theorem pd_5 : parseMethodDescriptor "()J" = some ⟨[], some .long⟩ := by decide +kernel
theorem pd_6 : parseMethodDescriptor "()Ljava/lang/String;" = some ⟨[], some (.object "java/lang/String")⟩ := by decide +kernel
theorem pd_7 : parseMethodDescriptor "()Z" = some ⟨[], some .boolean⟩ := by decide +kernel
theorem own_l9 {k : Int32} (h0 : 0 ≤ k.toInt) (h1 : k.toInt < 9) : k = 0 ∨ k = 1 ∨ k = 2 ∨ k = 3 ∨ k = 4 ∨ k = 5 ∨ k = 6 ∨ k = 7 ∨ k = 8 := by
  simp only [← Int32.toInt_inj, show (0 : Int32).toInt = 0 from by decide, show (1 : Int32).toInt = 1 from by decide, show (2 : Int32).toInt = 2 from by decide, show (3 : Int32).toInt = 3 from by decide, show (4 : Int32).toInt = 4 from by decide, show (5 : Int32).toInt = 5 from by decide, show (6 : Int32).toInt = 6 from by decide, show (7 : Int32).toInt = 7 from by decide, show (8 : Int32).toInt = 8 from by decide]
  omega
theorem own_k9 (x : Int32) : 0 ≤ ((x &&& 2147483647) % 9).toInt ∧ ((x &&& 2147483647) % 9).toInt < 9 := by
  have e1 : (x &&& 2147483647).toInt = x.toInt % 2 ^ 31 := Jvm.Kit.i32_mask x 2147483647 (k := 31) (by decide) (by decide)
  have k5 : (9 : Int32).toInt = 9 := by decide
  have e2 := Jvm.Kit.i32_rem_nonneg (x := x &&& 2147483647) (y := 9) (by omega)
  rw [e2, k5]; omega
def own_iq (a b : Addr) : Int32 := if a = b then 1 else 0
def QR (a : Addr) (h0 : Heap) (n0 : Nat) (v : Option Value) (h : Heap) (L : List Loc) : Prop := v = some (.ref a) ∧ Fr n0 L ∧ h = h0
def QN (h0 : Heap) (n0 : Nat) (v : Option Value) (h : Heap) (L : List Loc) : Prop := v = none ∧ Fr n0 L ∧ h = h0
def QJ (h0 : Heap) (n0 : Nat) (v : Option Value) (h : Heap) (L : List Loc) : Prop := v = some (.long (0 : Int64)) ∧ Fr n0 L ∧ h = h0
def QZ (z : Int32) (h0 : Heap) (n0 : Nat) (v : Option Value) (h : Heap) (L : List Loc) : Prop := v = some (.int z) ∧ Fr n0 L ∧ h = h0
def own_Rep (Z : State) (h : Heap) (r o b : Addr) : Prop := Exa Z h r "com/example/earnest_lease/earnestlease/protocol/Reply" ∧ Fld Z h r "com/example/earnest_lease/earnestlease/protocol/Reply" "outcome" "Lcom/example/earnest_lease/earnestlease/protocol/Reply$Outcome;" (.ref o) ∧ Fld Z h r "com/example/earnest_lease/earnestlease/protocol/Reply" "token" "J" (.long (0 : Int64)) ∧ Fld Z h r "com/example/earnest_lease/earnestlease/protocol/Reply" "reason" "Ljava/lang/String;" (.ref b)
def Q3 (Z : State) (r o b : Addr) (h0 : Heap) (n0 : Nat) (v : Option Value) (h : Heap) (L : List Loc) : Prop := v = none ∧ Fr n0 L ∧ Keep h0 h [r] ∧ own_Rep Z h r o b
def Q2 (Z : State) (o : Addr) (h0 : Heap) (n0 : Nat) (v : Option Value) (h : Heap) (L : List Loc) : Prop := ∃ r b d : Addr, v = some (.ref r) ∧ Fr n0 L ∧ Keep h0 h [] ∧ own_Rep Z h r o b ∧ Exa Z h b "java/lang/String" ∧ Fld Z h b "java/lang/String" "value" "[B" (.ref d) ∧ own_Arr Z h d .byte (([] : List Int32).map Value.int)
def Q0 (n0 : Nat) (v : Option Value) (h : Heap) (L : List Loc) : Prop := v = some (.int (1 : Int32)) ∧ Fr n0 L
theorem own_strs {Z : State} {a0 : Array Value} (hw : ∀ d ∈ tables_1, d.before a0 Z = true) : ∀ a ∈ Bundle.stringAtoms, a.before a0 Z = true := by
  intro a ha
  simp only [Bundle.stringAtoms, List.mem_cons, List.not_mem_nil, or_false] at ha
  rcases ha with rfl | rfl | rfl | rfl | rfl | rfl | rfl
  · exact (hw _ (List.mem_of_getElem? (i := 15) rfl))
  · exact (hw _ (List.mem_of_getElem? (i := 16) rfl))
  · exact (hw _ (List.mem_of_getElem? (i := 17) rfl))
  · exact (hw _ (List.mem_of_getElem? (i := 18) rfl))
  · exact (hw _ (List.mem_of_getElem? (i := 19) rfl))
  · exact (hw _ (List.mem_of_getElem? (i := 20) rfl))
  · exact (hw _ (List.mem_of_getElem? (i := 21) rfl))
theorem ef_1 (m : MethodId) (c1 : Int32) : entryFrame m #[(.int c1)] 1 = mkF m 0 #[.val (.int c1)] [] := by first | (simp [entryFrame, mkF, argsToLocals, Value.category]; done) | rfl
set_option maxRecDepth 65536 in
set_option maxHeartbeats 40000000 in
theorem rm1 (l : Launch) (Z : State) (a0 : Array Value) (hw : ∀ d ∈ tables_1, d.before a0 Z = true) (ws : List Jvm.Cond) (c1 : Int32) (a1 : Addr) (a_GRANTED : Addr) (a_HELD : Addr) (a_RENEWED : Addr) (a_RELEASED : Addr) (a_NOT_HELD : Addr) (a_REFUSED : Addr) (a_NO_LEADER : Addr) (a_QUEUED : Addr) (a_TAKEN : Addr) (h0 : Heap) (n0 : Nat) (Z0 : n0 ≤ h0.size) (S_GRANTED : Sta Z h0 "com/example/earnest_lease/earnestlease/protocol/Reply$Outcome" "GRANTED" "Lcom/example/earnest_lease/earnestlease/protocol/Reply$Outcome;" (.ref a_GRANTED)) (S_HELD : Sta Z h0 "com/example/earnest_lease/earnestlease/protocol/Reply$Outcome" "HELD" "Lcom/example/earnest_lease/earnestlease/protocol/Reply$Outcome;" (.ref a_HELD)) (S_RENEWED : Sta Z h0 "com/example/earnest_lease/earnestlease/protocol/Reply$Outcome" "RENEWED" "Lcom/example/earnest_lease/earnestlease/protocol/Reply$Outcome;" (.ref a_RENEWED)) (S_RELEASED : Sta Z h0 "com/example/earnest_lease/earnestlease/protocol/Reply$Outcome" "RELEASED" "Lcom/example/earnest_lease/earnestlease/protocol/Reply$Outcome;" (.ref a_RELEASED)) (S_NOT_HELD : Sta Z h0 "com/example/earnest_lease/earnestlease/protocol/Reply$Outcome" "NOT_HELD" "Lcom/example/earnest_lease/earnestlease/protocol/Reply$Outcome;" (.ref a_NOT_HELD)) (S_REFUSED : Sta Z h0 "com/example/earnest_lease/earnestlease/protocol/Reply$Outcome" "REFUSED" "Lcom/example/earnest_lease/earnestlease/protocol/Reply$Outcome;" (.ref a_REFUSED)) (S_NO_LEADER : Sta Z h0 "com/example/earnest_lease/earnestlease/protocol/Reply$Outcome" "NO_LEADER" "Lcom/example/earnest_lease/earnestlease/protocol/Reply$Outcome;" (.ref a_NO_LEADER)) (S_QUEUED : Sta Z h0 "com/example/earnest_lease/earnestlease/protocol/Reply$Outcome" "QUEUED" "Lcom/example/earnest_lease/earnestlease/protocol/Reply$Outcome;" (.ref a_QUEUED)) (S_TAKEN : Sta Z h0 "com/example/earnest_lease/earnestlease/protocol/Reply$Outcome" "TAKEN" "Lcom/example/earnest_lease/earnestlease/protocol/Reply$Outcome;" (.ref a_TAKEN)) (hsel : (c1 = 0 ∧ a1 = a_GRANTED) ∨ (c1 = 1 ∧ a1 = a_HELD) ∨ (c1 = 2 ∧ a1 = a_RENEWED) ∨ (c1 = 3 ∧ a1 = a_RELEASED) ∨ (c1 = 4 ∧ a1 = a_NOT_HELD) ∨ (c1 = 5 ∧ a1 = a_REFUSED) ∨ (c1 = 6 ∧ a1 = a_NO_LEADER) ∨ (c1 = 7 ∧ a1 = a_QUEUED) ∨ (c1 = 8 ∧ a1 = a_TAKEN)) :
    MetFree l (⟨"com/example/earnest_lease/earnestlease/protocol/ReplyOfPinLaw", "pick", "(I)Lcom/example/earnest_lease/earnestlease/protocol/Reply$Outcome;"⟩ : MethodName) (head1 (Jvm.Cond.code (⟨"com/example/earnest_lease/earnestlease/protocol/ReplyOfPinLaw", "pick", "(I)Lcom/example/earnest_lease/earnestlease/protocol/Reply$Outcome;"⟩ : MethodName) method_2_code 1 (some (.object "com/example/earnest_lease/earnestlease/protocol/Reply$Outcome")) :: ws) ({ frames := 0, cells := 0, slots := 0, locals := 0 } : Room)) (fun a U => a = #[(.int c1)] ∧ Z.Warmed39 U.vm ∧ U.heap = h0) (fun _ _ _ _ _ => True) (fun _ U o U' => ∃ v L, o = .returned v ∧ QR a1 h0 n0 v U'.heap L ∧ FrameEnd U o U' L ({ frames := 0, cells := 0, slots := 0, locals := 0 } : Room).cells ({ frames := 0, cells := 0, slots := 0, locals := 0 } : Room).slots) := by
  refine MetFree.of_bodySF (plainFor_of_name pn_0) hisR ?_
  intro p e s m args below meth c s₁ Bd hml0 hP hK
  obtain ⟨rfl, hZ, hh⟩ := hP
  have hx := Bd.exec
  have hby := Bd.bytes
  have hml : c.maxLocals = 1 := hml0
  have hown : s.vm.findClass "com/example/earnest_lease/earnestlease/protocol/ReplyOfPinLaw" = some m.cls := findClass_of_methodNamed Bd.named
  have hnm := (name_of_methodNamed Bd.named Bd.method).1
  have hlk : meth.locks = false := BodyLoose.notSynchronized Bd
  have X0 : Stand p l e ({ frames := 0, cells := 0, slots := 0, locals := 0 } : Room) s m #[(.int c1)] below meth c s₁ [] 0 0 := Stand.of_body Bd
  have e0 : s₁.heap = h0 := by rw [← hh, Bd.state]; rfl
  have N0 := Fr.nil n0
  refine own_start (Q := QR a1 h0 n0) (ef_1 m c1) ?_
  rcases hsel with ⟨rfl, ha⟩ | ⟨rfl, ha⟩ | ⟨rfl, ha⟩ | ⟨rfl, ha⟩ | ⟨rfl, ha⟩ | ⟨rfl, ha⟩ | ⟨rfl, ha⟩ | ⟨rfl, ha⟩ | ⟨rfl, ha⟩
  · show own_Go p e below _ s₁ (mkF m 0 #[.val (.int (0 : Int32))] [])
    refine own_by (fun t_ k_ => XS.iloadN X0.here hx rfl (hb hby d1_0) rfl k_) ?_
    show own_Go p e below _ s₁ (mkF m 1 #[.val (.int (0 : Int32))] [(.int (0 : Int32))])
    refine own_if X0 hx 8 (hb hby d1_1) (by decide) (by decide) (fun hc => absurd (show (0 : Int32) = (0 : Int32) from by decide) (by first | exact hc | exact not_not_intro hc)) (fun _ => ?_)
    show own_Go p e below _ s₁ (mkF m 4 #[.val (.int (0 : Int32))] [])
    refine own_getS X0 hx hZ hown (hw _ (List.mem_of_getElem? (i := 5) rfl)) Via.refl e0 S_GRANTED (hb hby d1_4) ?_
    intro T1 X1 e1
    show own_Go p e below _ T1 (mkF m 7 #[.val (.int (0 : Int32))] [(.ref a_GRANTED)])
    refine own_retR X1 hx hlk Bd.returns rfl rfl rfl (hb hby d1_7) e1 (by decide) (by decide) ?_
    exact ⟨by rw [ha], N0, rfl⟩
  · show own_Go p e below _ s₁ (mkF m 0 #[.val (.int (1 : Int32))] [])
    refine own_by (fun t_ k_ => XS.iloadN X0.here hx rfl (hb hby d1_0) rfl k_) ?_
    show own_Go p e below _ s₁ (mkF m 1 #[.val (.int (1 : Int32))] [(.int (1 : Int32))])
    refine own_if X0 hx 8 (hb hby d1_1) (by decide) (by decide) (fun _ => ?_) (fun hc => absurd (show ¬ (1 : Int32) = (0 : Int32) from by decide) (by first | exact hc | exact not_not_intro hc))
    show own_Go p e below _ s₁ (mkF m 8 #[.val (.int (1 : Int32))] [])
    refine own_by (fun t_ k_ => XS.iloadN X0.here hx rfl (hb hby d1_8) rfl k_) ?_
    show own_Go p e below _ s₁ (mkF m 9 #[.val (.int (1 : Int32))] [(.int (1 : Int32))])
    refine own_by (fun t_ k_ => XS.iconst X0.here hx rfl (hb hby d1_9) k_) ?_
    show own_Go p e below _ s₁ (mkF m 10 #[.val (.int (1 : Int32))] [(.int (1 : Int32)), (.int (1 : Int32))])
    refine own_icmp X0 hx 17 (hb hby d1_10) (by decide) (by decide) (fun hc => absurd (show (1 : Int32) = (1 : Int32) from by decide) (by first | exact hc | exact not_not_intro hc)) (fun _ => ?_)
    show own_Go p e below _ s₁ (mkF m 13 #[.val (.int (1 : Int32))] [])
    refine own_getS X0 hx hZ hown (hw _ (List.mem_of_getElem? (i := 71) rfl)) Via.refl e0 S_HELD (hb hby d1_13) ?_
    intro T2 X2 e2
    show own_Go p e below _ T2 (mkF m 16 #[.val (.int (1 : Int32))] [(.ref a_HELD)])
    refine own_retR X2 hx hlk Bd.returns rfl rfl rfl (hb hby d1_16) e2 (by decide) (by decide) ?_
    exact ⟨by rw [ha], N0, rfl⟩
  · show own_Go p e below _ s₁ (mkF m 0 #[.val (.int (2 : Int32))] [])
    refine own_by (fun t_ k_ => XS.iloadN X0.here hx rfl (hb hby d1_0) rfl k_) ?_
    show own_Go p e below _ s₁ (mkF m 1 #[.val (.int (2 : Int32))] [(.int (2 : Int32))])
    refine own_if X0 hx 8 (hb hby d1_1) (by decide) (by decide) (fun _ => ?_) (fun hc => absurd (show ¬ (2 : Int32) = (0 : Int32) from by decide) (by first | exact hc | exact not_not_intro hc))
    show own_Go p e below _ s₁ (mkF m 8 #[.val (.int (2 : Int32))] [])
    refine own_by (fun t_ k_ => XS.iloadN X0.here hx rfl (hb hby d1_8) rfl k_) ?_
    show own_Go p e below _ s₁ (mkF m 9 #[.val (.int (2 : Int32))] [(.int (2 : Int32))])
    refine own_by (fun t_ k_ => XS.iconst X0.here hx rfl (hb hby d1_9) k_) ?_
    show own_Go p e below _ s₁ (mkF m 10 #[.val (.int (2 : Int32))] [(.int (1 : Int32)), (.int (2 : Int32))])
    refine own_icmp X0 hx 17 (hb hby d1_10) (by decide) (by decide) (fun _ => ?_) (fun hc => absurd (show ¬ (2 : Int32) = (1 : Int32) from by decide) (by first | exact hc | exact not_not_intro hc))
    show own_Go p e below _ s₁ (mkF m 17 #[.val (.int (2 : Int32))] [])
    refine own_by (fun t_ k_ => XS.iloadN X0.here hx rfl (hb hby d1_17) rfl k_) ?_
    show own_Go p e below _ s₁ (mkF m 18 #[.val (.int (2 : Int32))] [(.int (2 : Int32))])
    refine own_by (fun t_ k_ => XS.iconst X0.here hx rfl (hb hby d1_18) k_) ?_
    show own_Go p e below _ s₁ (mkF m 19 #[.val (.int (2 : Int32))] [(.int (2 : Int32)), (.int (2 : Int32))])
    refine own_icmp X0 hx 26 (hb hby d1_19) (by decide) (by decide) (fun hc => absurd (show (2 : Int32) = (2 : Int32) from by decide) (by first | exact hc | exact not_not_intro hc)) (fun _ => ?_)
    show own_Go p e below _ s₁ (mkF m 22 #[.val (.int (2 : Int32))] [])
    refine own_getS X0 hx hZ hown (hw _ (List.mem_of_getElem? (i := 69) rfl)) Via.refl e0 S_RENEWED (hb hby d1_22) ?_
    intro T3 X3 e3
    show own_Go p e below _ T3 (mkF m 25 #[.val (.int (2 : Int32))] [(.ref a_RENEWED)])
    refine own_retR X3 hx hlk Bd.returns rfl rfl rfl (hb hby d1_25) e3 (by decide) (by decide) ?_
    exact ⟨by rw [ha], N0, rfl⟩
  · show own_Go p e below _ s₁ (mkF m 0 #[.val (.int (3 : Int32))] [])
    refine own_by (fun t_ k_ => XS.iloadN X0.here hx rfl (hb hby d1_0) rfl k_) ?_
    show own_Go p e below _ s₁ (mkF m 1 #[.val (.int (3 : Int32))] [(.int (3 : Int32))])
    refine own_if X0 hx 8 (hb hby d1_1) (by decide) (by decide) (fun _ => ?_) (fun hc => absurd (show ¬ (3 : Int32) = (0 : Int32) from by decide) (by first | exact hc | exact not_not_intro hc))
    show own_Go p e below _ s₁ (mkF m 8 #[.val (.int (3 : Int32))] [])
    refine own_by (fun t_ k_ => XS.iloadN X0.here hx rfl (hb hby d1_8) rfl k_) ?_
    show own_Go p e below _ s₁ (mkF m 9 #[.val (.int (3 : Int32))] [(.int (3 : Int32))])
    refine own_by (fun t_ k_ => XS.iconst X0.here hx rfl (hb hby d1_9) k_) ?_
    show own_Go p e below _ s₁ (mkF m 10 #[.val (.int (3 : Int32))] [(.int (1 : Int32)), (.int (3 : Int32))])
    refine own_icmp X0 hx 17 (hb hby d1_10) (by decide) (by decide) (fun _ => ?_) (fun hc => absurd (show ¬ (3 : Int32) = (1 : Int32) from by decide) (by first | exact hc | exact not_not_intro hc))
    show own_Go p e below _ s₁ (mkF m 17 #[.val (.int (3 : Int32))] [])
    refine own_by (fun t_ k_ => XS.iloadN X0.here hx rfl (hb hby d1_17) rfl k_) ?_
    show own_Go p e below _ s₁ (mkF m 18 #[.val (.int (3 : Int32))] [(.int (3 : Int32))])
    refine own_by (fun t_ k_ => XS.iconst X0.here hx rfl (hb hby d1_18) k_) ?_
    show own_Go p e below _ s₁ (mkF m 19 #[.val (.int (3 : Int32))] [(.int (2 : Int32)), (.int (3 : Int32))])
    refine own_icmp X0 hx 26 (hb hby d1_19) (by decide) (by decide) (fun _ => ?_) (fun hc => absurd (show ¬ (3 : Int32) = (2 : Int32) from by decide) (by first | exact hc | exact not_not_intro hc))
    show own_Go p e below _ s₁ (mkF m 26 #[.val (.int (3 : Int32))] [])
    refine own_by (fun t_ k_ => XS.iloadN X0.here hx rfl (hb hby d1_26) rfl k_) ?_
    show own_Go p e below _ s₁ (mkF m 27 #[.val (.int (3 : Int32))] [(.int (3 : Int32))])
    refine own_by (fun t_ k_ => XS.iconst X0.here hx rfl (hb hby d1_27) k_) ?_
    show own_Go p e below _ s₁ (mkF m 28 #[.val (.int (3 : Int32))] [(.int (3 : Int32)), (.int (3 : Int32))])
    refine own_icmp X0 hx 35 (hb hby d1_28) (by decide) (by decide) (fun hc => absurd (show (3 : Int32) = (3 : Int32) from by decide) (by first | exact hc | exact not_not_intro hc)) (fun _ => ?_)
    show own_Go p e below _ s₁ (mkF m 31 #[.val (.int (3 : Int32))] [])
    refine own_getS X0 hx hZ hown (hw _ (List.mem_of_getElem? (i := 67) rfl)) Via.refl e0 S_RELEASED (hb hby d1_31) ?_
    intro T4 X4 e4
    show own_Go p e below _ T4 (mkF m 34 #[.val (.int (3 : Int32))] [(.ref a_RELEASED)])
    refine own_retR X4 hx hlk Bd.returns rfl rfl rfl (hb hby d1_34) e4 (by decide) (by decide) ?_
    exact ⟨by rw [ha], N0, rfl⟩
  · show own_Go p e below _ s₁ (mkF m 0 #[.val (.int (4 : Int32))] [])
    refine own_by (fun t_ k_ => XS.iloadN X0.here hx rfl (hb hby d1_0) rfl k_) ?_
    show own_Go p e below _ s₁ (mkF m 1 #[.val (.int (4 : Int32))] [(.int (4 : Int32))])
    refine own_if X0 hx 8 (hb hby d1_1) (by decide) (by decide) (fun _ => ?_) (fun hc => absurd (show ¬ (4 : Int32) = (0 : Int32) from by decide) (by first | exact hc | exact not_not_intro hc))
    show own_Go p e below _ s₁ (mkF m 8 #[.val (.int (4 : Int32))] [])
    refine own_by (fun t_ k_ => XS.iloadN X0.here hx rfl (hb hby d1_8) rfl k_) ?_
    show own_Go p e below _ s₁ (mkF m 9 #[.val (.int (4 : Int32))] [(.int (4 : Int32))])
    refine own_by (fun t_ k_ => XS.iconst X0.here hx rfl (hb hby d1_9) k_) ?_
    show own_Go p e below _ s₁ (mkF m 10 #[.val (.int (4 : Int32))] [(.int (1 : Int32)), (.int (4 : Int32))])
    refine own_icmp X0 hx 17 (hb hby d1_10) (by decide) (by decide) (fun _ => ?_) (fun hc => absurd (show ¬ (4 : Int32) = (1 : Int32) from by decide) (by first | exact hc | exact not_not_intro hc))
    show own_Go p e below _ s₁ (mkF m 17 #[.val (.int (4 : Int32))] [])
    refine own_by (fun t_ k_ => XS.iloadN X0.here hx rfl (hb hby d1_17) rfl k_) ?_
    show own_Go p e below _ s₁ (mkF m 18 #[.val (.int (4 : Int32))] [(.int (4 : Int32))])
    refine own_by (fun t_ k_ => XS.iconst X0.here hx rfl (hb hby d1_18) k_) ?_
    show own_Go p e below _ s₁ (mkF m 19 #[.val (.int (4 : Int32))] [(.int (2 : Int32)), (.int (4 : Int32))])
    refine own_icmp X0 hx 26 (hb hby d1_19) (by decide) (by decide) (fun _ => ?_) (fun hc => absurd (show ¬ (4 : Int32) = (2 : Int32) from by decide) (by first | exact hc | exact not_not_intro hc))
    show own_Go p e below _ s₁ (mkF m 26 #[.val (.int (4 : Int32))] [])
    refine own_by (fun t_ k_ => XS.iloadN X0.here hx rfl (hb hby d1_26) rfl k_) ?_
    show own_Go p e below _ s₁ (mkF m 27 #[.val (.int (4 : Int32))] [(.int (4 : Int32))])
    refine own_by (fun t_ k_ => XS.iconst X0.here hx rfl (hb hby d1_27) k_) ?_
    show own_Go p e below _ s₁ (mkF m 28 #[.val (.int (4 : Int32))] [(.int (3 : Int32)), (.int (4 : Int32))])
    refine own_icmp X0 hx 35 (hb hby d1_28) (by decide) (by decide) (fun _ => ?_) (fun hc => absurd (show ¬ (4 : Int32) = (3 : Int32) from by decide) (by first | exact hc | exact not_not_intro hc))
    show own_Go p e below _ s₁ (mkF m 35 #[.val (.int (4 : Int32))] [])
    refine own_by (fun t_ k_ => XS.iloadN X0.here hx rfl (hb hby d1_35) rfl k_) ?_
    show own_Go p e below _ s₁ (mkF m 36 #[.val (.int (4 : Int32))] [(.int (4 : Int32))])
    refine own_by (fun t_ k_ => XS.iconst X0.here hx rfl (hb hby d1_36) k_) ?_
    show own_Go p e below _ s₁ (mkF m 37 #[.val (.int (4 : Int32))] [(.int (4 : Int32)), (.int (4 : Int32))])
    refine own_icmp X0 hx 44 (hb hby d1_37) (by decide) (by decide) (fun hc => absurd (show (4 : Int32) = (4 : Int32) from by decide) (by first | exact hc | exact not_not_intro hc)) (fun _ => ?_)
    show own_Go p e below _ s₁ (mkF m 40 #[.val (.int (4 : Int32))] [])
    refine own_getS X0 hx hZ hown (hw _ (List.mem_of_getElem? (i := 74) rfl)) Via.refl e0 S_NOT_HELD (hb hby d1_40) ?_
    intro T5 X5 e5
    show own_Go p e below _ T5 (mkF m 43 #[.val (.int (4 : Int32))] [(.ref a_NOT_HELD)])
    refine own_retR X5 hx hlk Bd.returns rfl rfl rfl (hb hby d1_43) e5 (by decide) (by decide) ?_
    exact ⟨by rw [ha], N0, rfl⟩
  · show own_Go p e below _ s₁ (mkF m 0 #[.val (.int (5 : Int32))] [])
    refine own_by (fun t_ k_ => XS.iloadN X0.here hx rfl (hb hby d1_0) rfl k_) ?_
    show own_Go p e below _ s₁ (mkF m 1 #[.val (.int (5 : Int32))] [(.int (5 : Int32))])
    refine own_if X0 hx 8 (hb hby d1_1) (by decide) (by decide) (fun _ => ?_) (fun hc => absurd (show ¬ (5 : Int32) = (0 : Int32) from by decide) (by first | exact hc | exact not_not_intro hc))
    show own_Go p e below _ s₁ (mkF m 8 #[.val (.int (5 : Int32))] [])
    refine own_by (fun t_ k_ => XS.iloadN X0.here hx rfl (hb hby d1_8) rfl k_) ?_
    show own_Go p e below _ s₁ (mkF m 9 #[.val (.int (5 : Int32))] [(.int (5 : Int32))])
    refine own_by (fun t_ k_ => XS.iconst X0.here hx rfl (hb hby d1_9) k_) ?_
    show own_Go p e below _ s₁ (mkF m 10 #[.val (.int (5 : Int32))] [(.int (1 : Int32)), (.int (5 : Int32))])
    refine own_icmp X0 hx 17 (hb hby d1_10) (by decide) (by decide) (fun _ => ?_) (fun hc => absurd (show ¬ (5 : Int32) = (1 : Int32) from by decide) (by first | exact hc | exact not_not_intro hc))
    show own_Go p e below _ s₁ (mkF m 17 #[.val (.int (5 : Int32))] [])
    refine own_by (fun t_ k_ => XS.iloadN X0.here hx rfl (hb hby d1_17) rfl k_) ?_
    show own_Go p e below _ s₁ (mkF m 18 #[.val (.int (5 : Int32))] [(.int (5 : Int32))])
    refine own_by (fun t_ k_ => XS.iconst X0.here hx rfl (hb hby d1_18) k_) ?_
    show own_Go p e below _ s₁ (mkF m 19 #[.val (.int (5 : Int32))] [(.int (2 : Int32)), (.int (5 : Int32))])
    refine own_icmp X0 hx 26 (hb hby d1_19) (by decide) (by decide) (fun _ => ?_) (fun hc => absurd (show ¬ (5 : Int32) = (2 : Int32) from by decide) (by first | exact hc | exact not_not_intro hc))
    show own_Go p e below _ s₁ (mkF m 26 #[.val (.int (5 : Int32))] [])
    refine own_by (fun t_ k_ => XS.iloadN X0.here hx rfl (hb hby d1_26) rfl k_) ?_
    show own_Go p e below _ s₁ (mkF m 27 #[.val (.int (5 : Int32))] [(.int (5 : Int32))])
    refine own_by (fun t_ k_ => XS.iconst X0.here hx rfl (hb hby d1_27) k_) ?_
    show own_Go p e below _ s₁ (mkF m 28 #[.val (.int (5 : Int32))] [(.int (3 : Int32)), (.int (5 : Int32))])
    refine own_icmp X0 hx 35 (hb hby d1_28) (by decide) (by decide) (fun _ => ?_) (fun hc => absurd (show ¬ (5 : Int32) = (3 : Int32) from by decide) (by first | exact hc | exact not_not_intro hc))
    show own_Go p e below _ s₁ (mkF m 35 #[.val (.int (5 : Int32))] [])
    refine own_by (fun t_ k_ => XS.iloadN X0.here hx rfl (hb hby d1_35) rfl k_) ?_
    show own_Go p e below _ s₁ (mkF m 36 #[.val (.int (5 : Int32))] [(.int (5 : Int32))])
    refine own_by (fun t_ k_ => XS.iconst X0.here hx rfl (hb hby d1_36) k_) ?_
    show own_Go p e below _ s₁ (mkF m 37 #[.val (.int (5 : Int32))] [(.int (4 : Int32)), (.int (5 : Int32))])
    refine own_icmp X0 hx 44 (hb hby d1_37) (by decide) (by decide) (fun _ => ?_) (fun hc => absurd (show ¬ (5 : Int32) = (4 : Int32) from by decide) (by first | exact hc | exact not_not_intro hc))
    show own_Go p e below _ s₁ (mkF m 44 #[.val (.int (5 : Int32))] [])
    refine own_by (fun t_ k_ => XS.iloadN X0.here hx rfl (hb hby d1_44) rfl k_) ?_
    show own_Go p e below _ s₁ (mkF m 45 #[.val (.int (5 : Int32))] [(.int (5 : Int32))])
    refine own_by (fun t_ k_ => XS.iconst X0.here hx rfl (hb hby d1_45) k_) ?_
    show own_Go p e below _ s₁ (mkF m 46 #[.val (.int (5 : Int32))] [(.int (5 : Int32)), (.int (5 : Int32))])
    refine own_icmp X0 hx 53 (hb hby d1_46) (by decide) (by decide) (fun hc => absurd (show (5 : Int32) = (5 : Int32) from by decide) (by first | exact hc | exact not_not_intro hc)) (fun _ => ?_)
    show own_Go p e below _ s₁ (mkF m 49 #[.val (.int (5 : Int32))] [])
    refine own_getS X0 hx hZ hown (hw _ (List.mem_of_getElem? (i := 80) rfl)) Via.refl e0 S_REFUSED (hb hby d1_49) ?_
    intro T6 X6 e6
    show own_Go p e below _ T6 (mkF m 52 #[.val (.int (5 : Int32))] [(.ref a_REFUSED)])
    refine own_retR X6 hx hlk Bd.returns rfl rfl rfl (hb hby d1_52) e6 (by decide) (by decide) ?_
    exact ⟨by rw [ha], N0, rfl⟩
  · show own_Go p e below _ s₁ (mkF m 0 #[.val (.int (6 : Int32))] [])
    refine own_by (fun t_ k_ => XS.iloadN X0.here hx rfl (hb hby d1_0) rfl k_) ?_
    show own_Go p e below _ s₁ (mkF m 1 #[.val (.int (6 : Int32))] [(.int (6 : Int32))])
    refine own_if X0 hx 8 (hb hby d1_1) (by decide) (by decide) (fun _ => ?_) (fun hc => absurd (show ¬ (6 : Int32) = (0 : Int32) from by decide) (by first | exact hc | exact not_not_intro hc))
    show own_Go p e below _ s₁ (mkF m 8 #[.val (.int (6 : Int32))] [])
    refine own_by (fun t_ k_ => XS.iloadN X0.here hx rfl (hb hby d1_8) rfl k_) ?_
    show own_Go p e below _ s₁ (mkF m 9 #[.val (.int (6 : Int32))] [(.int (6 : Int32))])
    refine own_by (fun t_ k_ => XS.iconst X0.here hx rfl (hb hby d1_9) k_) ?_
    show own_Go p e below _ s₁ (mkF m 10 #[.val (.int (6 : Int32))] [(.int (1 : Int32)), (.int (6 : Int32))])
    refine own_icmp X0 hx 17 (hb hby d1_10) (by decide) (by decide) (fun _ => ?_) (fun hc => absurd (show ¬ (6 : Int32) = (1 : Int32) from by decide) (by first | exact hc | exact not_not_intro hc))
    show own_Go p e below _ s₁ (mkF m 17 #[.val (.int (6 : Int32))] [])
    refine own_by (fun t_ k_ => XS.iloadN X0.here hx rfl (hb hby d1_17) rfl k_) ?_
    show own_Go p e below _ s₁ (mkF m 18 #[.val (.int (6 : Int32))] [(.int (6 : Int32))])
    refine own_by (fun t_ k_ => XS.iconst X0.here hx rfl (hb hby d1_18) k_) ?_
    show own_Go p e below _ s₁ (mkF m 19 #[.val (.int (6 : Int32))] [(.int (2 : Int32)), (.int (6 : Int32))])
    refine own_icmp X0 hx 26 (hb hby d1_19) (by decide) (by decide) (fun _ => ?_) (fun hc => absurd (show ¬ (6 : Int32) = (2 : Int32) from by decide) (by first | exact hc | exact not_not_intro hc))
    show own_Go p e below _ s₁ (mkF m 26 #[.val (.int (6 : Int32))] [])
    refine own_by (fun t_ k_ => XS.iloadN X0.here hx rfl (hb hby d1_26) rfl k_) ?_
    show own_Go p e below _ s₁ (mkF m 27 #[.val (.int (6 : Int32))] [(.int (6 : Int32))])
    refine own_by (fun t_ k_ => XS.iconst X0.here hx rfl (hb hby d1_27) k_) ?_
    show own_Go p e below _ s₁ (mkF m 28 #[.val (.int (6 : Int32))] [(.int (3 : Int32)), (.int (6 : Int32))])
    refine own_icmp X0 hx 35 (hb hby d1_28) (by decide) (by decide) (fun _ => ?_) (fun hc => absurd (show ¬ (6 : Int32) = (3 : Int32) from by decide) (by first | exact hc | exact not_not_intro hc))
    show own_Go p e below _ s₁ (mkF m 35 #[.val (.int (6 : Int32))] [])
    refine own_by (fun t_ k_ => XS.iloadN X0.here hx rfl (hb hby d1_35) rfl k_) ?_
    show own_Go p e below _ s₁ (mkF m 36 #[.val (.int (6 : Int32))] [(.int (6 : Int32))])
    refine own_by (fun t_ k_ => XS.iconst X0.here hx rfl (hb hby d1_36) k_) ?_
    show own_Go p e below _ s₁ (mkF m 37 #[.val (.int (6 : Int32))] [(.int (4 : Int32)), (.int (6 : Int32))])
    refine own_icmp X0 hx 44 (hb hby d1_37) (by decide) (by decide) (fun _ => ?_) (fun hc => absurd (show ¬ (6 : Int32) = (4 : Int32) from by decide) (by first | exact hc | exact not_not_intro hc))
    show own_Go p e below _ s₁ (mkF m 44 #[.val (.int (6 : Int32))] [])
    refine own_by (fun t_ k_ => XS.iloadN X0.here hx rfl (hb hby d1_44) rfl k_) ?_
    show own_Go p e below _ s₁ (mkF m 45 #[.val (.int (6 : Int32))] [(.int (6 : Int32))])
    refine own_by (fun t_ k_ => XS.iconst X0.here hx rfl (hb hby d1_45) k_) ?_
    show own_Go p e below _ s₁ (mkF m 46 #[.val (.int (6 : Int32))] [(.int (5 : Int32)), (.int (6 : Int32))])
    refine own_icmp X0 hx 53 (hb hby d1_46) (by decide) (by decide) (fun _ => ?_) (fun hc => absurd (show ¬ (6 : Int32) = (5 : Int32) from by decide) (by first | exact hc | exact not_not_intro hc))
    show own_Go p e below _ s₁ (mkF m 53 #[.val (.int (6 : Int32))] [])
    refine own_by (fun t_ k_ => XS.iloadN X0.here hx rfl (hb hby d1_53) rfl k_) ?_
    show own_Go p e below _ s₁ (mkF m 54 #[.val (.int (6 : Int32))] [(.int (6 : Int32))])
    refine own_by (fun t_ k_ => XS.bipush X0.here hx rfl (hb hby d1_54) k_) ?_
    show own_Go p e below _ s₁ (mkF m 56 #[.val (.int (6 : Int32))] [(.int (6 : Int32)), (.int (6 : Int32))])
    refine own_icmp X0 hx 63 (hb hby d1_56) (by decide) (by decide) (fun hc => absurd (show (6 : Int32) = (6 : Int32) from by decide) (by first | exact hc | exact not_not_intro hc)) (fun _ => ?_)
    show own_Go p e below _ s₁ (mkF m 59 #[.val (.int (6 : Int32))] [])
    refine own_getS X0 hx hZ hown (hw _ (List.mem_of_getElem? (i := 78) rfl)) Via.refl e0 S_NO_LEADER (hb hby d1_59) ?_
    intro T7 X7 e7
    show own_Go p e below _ T7 (mkF m 62 #[.val (.int (6 : Int32))] [(.ref a_NO_LEADER)])
    refine own_retR X7 hx hlk Bd.returns rfl rfl rfl (hb hby d1_62) e7 (by decide) (by decide) ?_
    exact ⟨by rw [ha], N0, rfl⟩
  · show own_Go p e below _ s₁ (mkF m 0 #[.val (.int (7 : Int32))] [])
    refine own_by (fun t_ k_ => XS.iloadN X0.here hx rfl (hb hby d1_0) rfl k_) ?_
    show own_Go p e below _ s₁ (mkF m 1 #[.val (.int (7 : Int32))] [(.int (7 : Int32))])
    refine own_if X0 hx 8 (hb hby d1_1) (by decide) (by decide) (fun _ => ?_) (fun hc => absurd (show ¬ (7 : Int32) = (0 : Int32) from by decide) (by first | exact hc | exact not_not_intro hc))
    show own_Go p e below _ s₁ (mkF m 8 #[.val (.int (7 : Int32))] [])
    refine own_by (fun t_ k_ => XS.iloadN X0.here hx rfl (hb hby d1_8) rfl k_) ?_
    show own_Go p e below _ s₁ (mkF m 9 #[.val (.int (7 : Int32))] [(.int (7 : Int32))])
    refine own_by (fun t_ k_ => XS.iconst X0.here hx rfl (hb hby d1_9) k_) ?_
    show own_Go p e below _ s₁ (mkF m 10 #[.val (.int (7 : Int32))] [(.int (1 : Int32)), (.int (7 : Int32))])
    refine own_icmp X0 hx 17 (hb hby d1_10) (by decide) (by decide) (fun _ => ?_) (fun hc => absurd (show ¬ (7 : Int32) = (1 : Int32) from by decide) (by first | exact hc | exact not_not_intro hc))
    show own_Go p e below _ s₁ (mkF m 17 #[.val (.int (7 : Int32))] [])
    refine own_by (fun t_ k_ => XS.iloadN X0.here hx rfl (hb hby d1_17) rfl k_) ?_
    show own_Go p e below _ s₁ (mkF m 18 #[.val (.int (7 : Int32))] [(.int (7 : Int32))])
    refine own_by (fun t_ k_ => XS.iconst X0.here hx rfl (hb hby d1_18) k_) ?_
    show own_Go p e below _ s₁ (mkF m 19 #[.val (.int (7 : Int32))] [(.int (2 : Int32)), (.int (7 : Int32))])
    refine own_icmp X0 hx 26 (hb hby d1_19) (by decide) (by decide) (fun _ => ?_) (fun hc => absurd (show ¬ (7 : Int32) = (2 : Int32) from by decide) (by first | exact hc | exact not_not_intro hc))
    show own_Go p e below _ s₁ (mkF m 26 #[.val (.int (7 : Int32))] [])
    refine own_by (fun t_ k_ => XS.iloadN X0.here hx rfl (hb hby d1_26) rfl k_) ?_
    show own_Go p e below _ s₁ (mkF m 27 #[.val (.int (7 : Int32))] [(.int (7 : Int32))])
    refine own_by (fun t_ k_ => XS.iconst X0.here hx rfl (hb hby d1_27) k_) ?_
    show own_Go p e below _ s₁ (mkF m 28 #[.val (.int (7 : Int32))] [(.int (3 : Int32)), (.int (7 : Int32))])
    refine own_icmp X0 hx 35 (hb hby d1_28) (by decide) (by decide) (fun _ => ?_) (fun hc => absurd (show ¬ (7 : Int32) = (3 : Int32) from by decide) (by first | exact hc | exact not_not_intro hc))
    show own_Go p e below _ s₁ (mkF m 35 #[.val (.int (7 : Int32))] [])
    refine own_by (fun t_ k_ => XS.iloadN X0.here hx rfl (hb hby d1_35) rfl k_) ?_
    show own_Go p e below _ s₁ (mkF m 36 #[.val (.int (7 : Int32))] [(.int (7 : Int32))])
    refine own_by (fun t_ k_ => XS.iconst X0.here hx rfl (hb hby d1_36) k_) ?_
    show own_Go p e below _ s₁ (mkF m 37 #[.val (.int (7 : Int32))] [(.int (4 : Int32)), (.int (7 : Int32))])
    refine own_icmp X0 hx 44 (hb hby d1_37) (by decide) (by decide) (fun _ => ?_) (fun hc => absurd (show ¬ (7 : Int32) = (4 : Int32) from by decide) (by first | exact hc | exact not_not_intro hc))
    show own_Go p e below _ s₁ (mkF m 44 #[.val (.int (7 : Int32))] [])
    refine own_by (fun t_ k_ => XS.iloadN X0.here hx rfl (hb hby d1_44) rfl k_) ?_
    show own_Go p e below _ s₁ (mkF m 45 #[.val (.int (7 : Int32))] [(.int (7 : Int32))])
    refine own_by (fun t_ k_ => XS.iconst X0.here hx rfl (hb hby d1_45) k_) ?_
    show own_Go p e below _ s₁ (mkF m 46 #[.val (.int (7 : Int32))] [(.int (5 : Int32)), (.int (7 : Int32))])
    refine own_icmp X0 hx 53 (hb hby d1_46) (by decide) (by decide) (fun _ => ?_) (fun hc => absurd (show ¬ (7 : Int32) = (5 : Int32) from by decide) (by first | exact hc | exact not_not_intro hc))
    show own_Go p e below _ s₁ (mkF m 53 #[.val (.int (7 : Int32))] [])
    refine own_by (fun t_ k_ => XS.iloadN X0.here hx rfl (hb hby d1_53) rfl k_) ?_
    show own_Go p e below _ s₁ (mkF m 54 #[.val (.int (7 : Int32))] [(.int (7 : Int32))])
    refine own_by (fun t_ k_ => XS.bipush X0.here hx rfl (hb hby d1_54) k_) ?_
    show own_Go p e below _ s₁ (mkF m 56 #[.val (.int (7 : Int32))] [(.int (6 : Int32)), (.int (7 : Int32))])
    refine own_icmp X0 hx 63 (hb hby d1_56) (by decide) (by decide) (fun _ => ?_) (fun hc => absurd (show ¬ (7 : Int32) = (6 : Int32) from by decide) (by first | exact hc | exact not_not_intro hc))
    show own_Go p e below _ s₁ (mkF m 63 #[.val (.int (7 : Int32))] [])
    refine own_by (fun t_ k_ => XS.iloadN X0.here hx rfl (hb hby d1_63) rfl k_) ?_
    show own_Go p e below _ s₁ (mkF m 64 #[.val (.int (7 : Int32))] [(.int (7 : Int32))])
    refine own_by (fun t_ k_ => XS.bipush X0.here hx rfl (hb hby d1_64) k_) ?_
    show own_Go p e below _ s₁ (mkF m 66 #[.val (.int (7 : Int32))] [(.int (7 : Int32)), (.int (7 : Int32))])
    refine own_icmp X0 hx 73 (hb hby d1_66) (by decide) (by decide) (fun hc => absurd (show (7 : Int32) = (7 : Int32) from by decide) (by first | exact hc | exact not_not_intro hc)) (fun _ => ?_)
    show own_Go p e below _ s₁ (mkF m 69 #[.val (.int (7 : Int32))] [])
    refine own_getS X0 hx hZ hown (hw _ (List.mem_of_getElem? (i := 73) rfl)) Via.refl e0 S_QUEUED (hb hby d1_69) ?_
    intro T8 X8 e8
    show own_Go p e below _ T8 (mkF m 72 #[.val (.int (7 : Int32))] [(.ref a_QUEUED)])
    refine own_retR X8 hx hlk Bd.returns rfl rfl rfl (hb hby d1_72) e8 (by decide) (by decide) ?_
    exact ⟨by rw [ha], N0, rfl⟩
  · show own_Go p e below _ s₁ (mkF m 0 #[.val (.int (8 : Int32))] [])
    refine own_by (fun t_ k_ => XS.iloadN X0.here hx rfl (hb hby d1_0) rfl k_) ?_
    show own_Go p e below _ s₁ (mkF m 1 #[.val (.int (8 : Int32))] [(.int (8 : Int32))])
    refine own_if X0 hx 8 (hb hby d1_1) (by decide) (by decide) (fun _ => ?_) (fun hc => absurd (show ¬ (8 : Int32) = (0 : Int32) from by decide) (by first | exact hc | exact not_not_intro hc))
    show own_Go p e below _ s₁ (mkF m 8 #[.val (.int (8 : Int32))] [])
    refine own_by (fun t_ k_ => XS.iloadN X0.here hx rfl (hb hby d1_8) rfl k_) ?_
    show own_Go p e below _ s₁ (mkF m 9 #[.val (.int (8 : Int32))] [(.int (8 : Int32))])
    refine own_by (fun t_ k_ => XS.iconst X0.here hx rfl (hb hby d1_9) k_) ?_
    show own_Go p e below _ s₁ (mkF m 10 #[.val (.int (8 : Int32))] [(.int (1 : Int32)), (.int (8 : Int32))])
    refine own_icmp X0 hx 17 (hb hby d1_10) (by decide) (by decide) (fun _ => ?_) (fun hc => absurd (show ¬ (8 : Int32) = (1 : Int32) from by decide) (by first | exact hc | exact not_not_intro hc))
    show own_Go p e below _ s₁ (mkF m 17 #[.val (.int (8 : Int32))] [])
    refine own_by (fun t_ k_ => XS.iloadN X0.here hx rfl (hb hby d1_17) rfl k_) ?_
    show own_Go p e below _ s₁ (mkF m 18 #[.val (.int (8 : Int32))] [(.int (8 : Int32))])
    refine own_by (fun t_ k_ => XS.iconst X0.here hx rfl (hb hby d1_18) k_) ?_
    show own_Go p e below _ s₁ (mkF m 19 #[.val (.int (8 : Int32))] [(.int (2 : Int32)), (.int (8 : Int32))])
    refine own_icmp X0 hx 26 (hb hby d1_19) (by decide) (by decide) (fun _ => ?_) (fun hc => absurd (show ¬ (8 : Int32) = (2 : Int32) from by decide) (by first | exact hc | exact not_not_intro hc))
    show own_Go p e below _ s₁ (mkF m 26 #[.val (.int (8 : Int32))] [])
    refine own_by (fun t_ k_ => XS.iloadN X0.here hx rfl (hb hby d1_26) rfl k_) ?_
    show own_Go p e below _ s₁ (mkF m 27 #[.val (.int (8 : Int32))] [(.int (8 : Int32))])
    refine own_by (fun t_ k_ => XS.iconst X0.here hx rfl (hb hby d1_27) k_) ?_
    show own_Go p e below _ s₁ (mkF m 28 #[.val (.int (8 : Int32))] [(.int (3 : Int32)), (.int (8 : Int32))])
    refine own_icmp X0 hx 35 (hb hby d1_28) (by decide) (by decide) (fun _ => ?_) (fun hc => absurd (show ¬ (8 : Int32) = (3 : Int32) from by decide) (by first | exact hc | exact not_not_intro hc))
    show own_Go p e below _ s₁ (mkF m 35 #[.val (.int (8 : Int32))] [])
    refine own_by (fun t_ k_ => XS.iloadN X0.here hx rfl (hb hby d1_35) rfl k_) ?_
    show own_Go p e below _ s₁ (mkF m 36 #[.val (.int (8 : Int32))] [(.int (8 : Int32))])
    refine own_by (fun t_ k_ => XS.iconst X0.here hx rfl (hb hby d1_36) k_) ?_
    show own_Go p e below _ s₁ (mkF m 37 #[.val (.int (8 : Int32))] [(.int (4 : Int32)), (.int (8 : Int32))])
    refine own_icmp X0 hx 44 (hb hby d1_37) (by decide) (by decide) (fun _ => ?_) (fun hc => absurd (show ¬ (8 : Int32) = (4 : Int32) from by decide) (by first | exact hc | exact not_not_intro hc))
    show own_Go p e below _ s₁ (mkF m 44 #[.val (.int (8 : Int32))] [])
    refine own_by (fun t_ k_ => XS.iloadN X0.here hx rfl (hb hby d1_44) rfl k_) ?_
    show own_Go p e below _ s₁ (mkF m 45 #[.val (.int (8 : Int32))] [(.int (8 : Int32))])
    refine own_by (fun t_ k_ => XS.iconst X0.here hx rfl (hb hby d1_45) k_) ?_
    show own_Go p e below _ s₁ (mkF m 46 #[.val (.int (8 : Int32))] [(.int (5 : Int32)), (.int (8 : Int32))])
    refine own_icmp X0 hx 53 (hb hby d1_46) (by decide) (by decide) (fun _ => ?_) (fun hc => absurd (show ¬ (8 : Int32) = (5 : Int32) from by decide) (by first | exact hc | exact not_not_intro hc))
    show own_Go p e below _ s₁ (mkF m 53 #[.val (.int (8 : Int32))] [])
    refine own_by (fun t_ k_ => XS.iloadN X0.here hx rfl (hb hby d1_53) rfl k_) ?_
    show own_Go p e below _ s₁ (mkF m 54 #[.val (.int (8 : Int32))] [(.int (8 : Int32))])
    refine own_by (fun t_ k_ => XS.bipush X0.here hx rfl (hb hby d1_54) k_) ?_
    show own_Go p e below _ s₁ (mkF m 56 #[.val (.int (8 : Int32))] [(.int (6 : Int32)), (.int (8 : Int32))])
    refine own_icmp X0 hx 63 (hb hby d1_56) (by decide) (by decide) (fun _ => ?_) (fun hc => absurd (show ¬ (8 : Int32) = (6 : Int32) from by decide) (by first | exact hc | exact not_not_intro hc))
    show own_Go p e below _ s₁ (mkF m 63 #[.val (.int (8 : Int32))] [])
    refine own_by (fun t_ k_ => XS.iloadN X0.here hx rfl (hb hby d1_63) rfl k_) ?_
    show own_Go p e below _ s₁ (mkF m 64 #[.val (.int (8 : Int32))] [(.int (8 : Int32))])
    refine own_by (fun t_ k_ => XS.bipush X0.here hx rfl (hb hby d1_64) k_) ?_
    show own_Go p e below _ s₁ (mkF m 66 #[.val (.int (8 : Int32))] [(.int (7 : Int32)), (.int (8 : Int32))])
    refine own_icmp X0 hx 73 (hb hby d1_66) (by decide) (by decide) (fun _ => ?_) (fun hc => absurd (show ¬ (8 : Int32) = (7 : Int32) from by decide) (by first | exact hc | exact not_not_intro hc))
    show own_Go p e below _ s₁ (mkF m 73 #[.val (.int (8 : Int32))] [])
    refine own_getS X0 hx hZ hown (hw _ (List.mem_of_getElem? (i := 76) rfl)) Via.refl e0 S_TAKEN (hb hby d1_73) ?_
    intro T9 X9 e9
    show own_Go p e below _ T9 (mkF m 76 #[.val (.int (8 : Int32))] [(.ref a_TAKEN)])
    refine own_retR X9 hx hlk Bd.returns rfl rfl rfl (hb hby d1_76) e9 (by decide) (by decide) ?_
    exact ⟨by rw [ha], N0, rfl⟩
theorem ef_4 (m : MethodId) (a1 : Addr) : entryFrame m #[(.ref a1)] 1 = mkF m 0 #[.val (.ref a1)] [] := by first | (simp [entryFrame, mkF, argsToLocals, Value.category]; done) | rfl
set_option maxRecDepth 65536 in
set_option maxHeartbeats 40000000 in
theorem rm4 (l : Launch) (Z : State) (a0 : Array Value) (hw : ∀ d ∈ tables_1, d.before a0 Z = true) (ws : List Jvm.Cond) (a1 : Addr) (h0 : Heap) (n0 : Nat) (Z0 : n0 ≤ h0.size) :
    MetFree l (⟨"java/lang/Record", "<init>", "()V"⟩ : MethodName) (head1 (Jvm.Cond.code (⟨"java/lang/Record", "<init>", "()V"⟩ : MethodName) jdk_30_method_1_code 1 none :: ws) ({ frames := 1, cells := 0, slots := 0, locals := 12 } : Room)) (fun a U => a = #[(.ref a1)] ∧ Z.Warmed39 U.vm ∧ U.heap = h0) (fun _ _ _ _ _ => True) (fun _ U o U' => ∃ v L, o = .returned v ∧ QN h0 n0 v U'.heap L ∧ FrameEnd U o U' L ({ frames := 1, cells := 0, slots := 0, locals := 12 } : Room).cells ({ frames := 1, cells := 0, slots := 0, locals := 12 } : Room).slots) := by
  refine MetFree.of_bodySF (plainFor_of_name pn_4) hisR ?_
  intro p e s m args below meth c s₁ Bd hml0 hP hK
  obtain ⟨rfl, hZ, hh⟩ := hP
  have hx := Bd.exec
  have hby := Bd.bytes
  have hml : c.maxLocals = 1 := hml0
  have hown : s.vm.findClass "java/lang/Record" = some m.cls := findClass_of_methodNamed Bd.named
  have hnm := (name_of_methodNamed Bd.named Bd.method).1
  have hlk : meth.locks = false := BodyLoose.notSynchronized Bd
  have X0 : Stand p l e ({ frames := 1, cells := 0, slots := 0, locals := 12 } : Room) s m #[(.ref a1)] below meth c s₁ [] 0 0 := Stand.of_body Bd
  have e0 : s₁.heap = h0 := by rw [← hh, Bd.state]; rfl
  have N0 := Fr.nil n0
  refine own_start (Q := QN h0 n0) (ef_4 m a1) ?_
  show own_Go p e below _ s₁ (mkF m 0 #[.val (.ref a1)] [])
  refine own_by (fun t_ k_ => XS.aloadN X0.here hx rfl (hb hby d4_0) rfl rfl k_) ?_
  show own_Go p e below _ s₁ (mkF m 1 #[.val (.ref a1)] [(.ref a1)])
  refine own_initO X0 hx hZ hown (hw _ (List.mem_of_getElem? (i := 30) rfl)) (hw _ (List.mem_of_getElem? (i := 31) rfl)) (hw _ (List.mem_of_getElem? (i := 32) rfl)) e0 (by rw [hml]; rfl) (hb hby d4_1) (by decide) (W := 0) (Nat.le_of_eq rfl) (by decide) ?_
  intro T1 X1 e1
  show own_Go p e below _ T1 (mkF m 4 #[.val (.ref a1)] [])
  refine own_retV X1 hx hlk Bd.returns (hb hby d4_4) e1 (by decide) (by decide) ?_
  exact ⟨rfl, N0, rfl⟩
theorem ef_3 (m : MethodId) (a1 : Addr) (a2 : Addr) (a4 : Addr) : entryFrame m #[(.ref a1), (.ref a2), (.long (0 : Int64)), (.ref a4)] 5 = mkF m 0 #[.val (.ref a1), .val (.ref a2), .val (.long (0 : Int64)), .second, .val (.ref a4)] [] := by first | (simp [entryFrame, mkF, argsToLocals, Value.category]; done) | rfl
set_option maxRecDepth 65536 in
set_option maxHeartbeats 40000000 in
theorem rm3 (l : Launch) (Z : State) (a0 : Array Value) (hw : ∀ d ∈ tables_1, d.before a0 Z = true) (ws : List Jvm.Cond) (a1 : Addr) (a2 : Addr) (a4 : Addr) (h0 : Heap) (n0 : Nat) (Z0 : n0 ≤ h0.size) (E_a1 : Exa Z h0 a1 "com/example/earnest_lease/earnestlease/protocol/Reply") (F_outcome : Fld Z h0 a1 "com/example/earnest_lease/earnestlease/protocol/Reply" "outcome" "Lcom/example/earnest_lease/earnestlease/protocol/Reply$Outcome;" .null) (F_token : Fld Z h0 a1 "com/example/earnest_lease/earnestlease/protocol/Reply" "token" "J" (.long (0 : Int64))) (F_reason : Fld Z h0 a1 "com/example/earnest_lease/earnestlease/protocol/Reply" "reason" "Ljava/lang/String;" .null) (g_a1 : n0 ≤ a1) :
    MetFree l (⟨"com/example/earnest_lease/earnestlease/protocol/Reply", "<init>", "(Lcom/example/earnest_lease/earnestlease/protocol/Reply$Outcome;JLjava/lang/String;)V"⟩ : MethodName) (head1 (Jvm.Cond.code (⟨"com/example/earnest_lease/earnestlease/protocol/Reply", "<init>", "(Lcom/example/earnest_lease/earnestlease/protocol/Reply$Outcome;JLjava/lang/String;)V"⟩ : MethodName) prog_50_method_1_code 5 none :: ws) ({ frames := 2, cells := 0, slots := 0, locals := 24 } : Room)) (fun a U => a = #[(.ref a1), (.ref a2), (.long (0 : Int64)), (.ref a4)] ∧ Z.Warmed39 U.vm ∧ U.heap = h0) (fun _ _ _ _ _ => True) (fun _ U o U' => ∃ v L, o = .returned v ∧ Q3 Z a1 a2 a4 h0 n0 v U'.heap L ∧ FrameEnd U o U' L ({ frames := 2, cells := 0, slots := 0, locals := 24 } : Room).cells ({ frames := 2, cells := 0, slots := 0, locals := 24 } : Room).slots) := by
  refine MetFree.of_bodySF (plainFor_of_name pn_2) hisR ?_
  intro p e s m args below meth c s₁ Bd hml0 hP hK
  obtain ⟨rfl, hZ, hh⟩ := hP
  have hx := Bd.exec
  have hby := Bd.bytes
  have hml : c.maxLocals = 5 := hml0
  have hown : s.vm.findClass "com/example/earnest_lease/earnestlease/protocol/Reply" = some m.cls := findClass_of_methodNamed Bd.named
  have hnm := (name_of_methodNamed Bd.named Bd.method).1
  have hlk : meth.locks = false := BodyLoose.notSynchronized Bd
  have X0 : Stand p l e ({ frames := 2, cells := 0, slots := 0, locals := 24 } : Room) s m #[(.ref a1), (.ref a2), (.long (0 : Int64)), (.ref a4)] below meth c s₁ [] 0 0 := Stand.of_body Bd
  have e0 : s₁.heap = h0 := by rw [← hh, Bd.state]; rfl
  have N0 := Fr.nil n0
  refine own_start (Q := Q3 Z a1 a2 a4 h0 n0) (ef_3 m a1 a2 a4) ?_
  have K0 := Keep.refl h0 [a1]
  show own_Go p e below _ s₁ (mkF m 0 #[.val (.ref a1), .val (.ref a2), .val (.long (0 : Int64)), .second, .val (.ref a4)] [])
  refine own_by (fun t_ k_ => XS.aloadN X0.here hx rfl (hb hby d3_0) rfl rfl k_) ?_
  show own_Go p e below _ s₁ (mkF m 1 #[.val (.ref a1), .val (.ref a2), .val (.long (0 : Int64)), .second, .val (.ref a4)] [(.ref a1)])
  refine own_callC (W := 0) X0 hx hZ (y := (⟨"java/lang/Record", "<init>", "()V"⟩ : MethodName)) rfl hown (hw _ (List.mem_of_getElem? (i := 25) rfl)) (hw _ (List.mem_of_getElem? (i := 26) rfl)) (hw _ (List.mem_of_getElem? (i := 28) rfl)) (hw _ (List.mem_of_getElem? (i := 29) rfl)) (by decide) (by rw [hml]; rfl) (argsL := []) pd_3 rfl (a := a1) (rm4 l Z a0 hw [] a1 h0 n0 Z0) (by decide) (by decide) (Nat.le_of_eq rfl) (by decide) (by decide) (rest := []) e0 rfl (hb hby d3_1) ?_
  intro v1 T1 L1 X1 hQ1
  obtain ⟨rfl, N1q, e1⟩ := hQ1
  have N1 := Fr.app N0 N1q
  show own_Go p e below _ T1 (mkF m 4 #[.val (.ref a1), .val (.ref a2), .val (.long (0 : Int64)), .second, .val (.ref a4)] [])
  refine own_by (fun t_ k_ => XS.aloadN X1.here hx rfl (hb hby d3_4) rfl rfl k_) ?_
  show own_Go p e below _ T1 (mkF m 5 #[.val (.ref a1), .val (.ref a2), .val (.long (0 : Int64)), .second, .val (.ref a4)] [(.ref a1)])
  refine own_by (fun t_ k_ => XS.aloadN X1.here hx rfl (hb hby d3_5) rfl rfl k_) ?_
  show own_Go p e below _ T1 (mkF m 6 #[.val (.ref a1), .val (.ref a2), .val (.long (0 : Int64)), .second, .val (.ref a4)] [(.ref a2), (.ref a1)])
  refine own_putF X1 hx hZ hown (hw _ (List.mem_of_getElem? (i := 33) rfl)) Via.refl e1 F_outcome E_a1 (Or.inr ⟨(hw _ (List.mem_of_getElem? (i := 34) rfl)), rfl, hnm⟩) (hw _ (List.mem_of_getElem? (i := 13) rfl)) (ty := (.object "com/example/earnest_lease/earnestlease/protocol/Reply$Outcome")) (by decide) rfl rfl (hb hby d3_6) ?_
  intro T2 h2 X2 e2 W2
  have F2 := Fld.same W2 F_outcome
  have N2 := Fr.snoc X2 N1 g_a1
  have sz2 : n0 ≤ h2.size := Nat.le_trans Z0 (Keep.of_wr W2).1
  have K2 : Keep h0 h2 [a1] := K0.wr W2 (Or.inl (List.mem_cons_self ..))
  show own_Go p e below _ T2 (mkF m 9 #[.val (.ref a1), .val (.ref a2), .val (.long (0 : Int64)), .second, .val (.ref a4)] [])
  refine own_by (fun t_ k_ => XS.aloadN X2.here hx rfl (hb hby d3_9) rfl rfl k_) ?_
  show own_Go p e below _ T2 (mkF m 10 #[.val (.ref a1), .val (.ref a2), .val (.long (0 : Int64)), .second, .val (.ref a4)] [(.ref a1)])
  refine own_by (fun t_ k_ => XT.lloadN X2.here hx rfl (hb hby d3_10) rfl k_) ?_
  show own_Go p e below _ T2 (mkF m 11 #[.val (.ref a1), .val (.ref a2), .val (.long (0 : Int64)), .second, .val (.ref a4)] [(.long (0 : Int64)), (.ref a1)])
  have F_token_4 : Fld Z h2 a1 "com/example/earnest_lease/earnestlease/protocol/Reply" "token" "J" (.long (0 : Int64)) := (Fld.other W2 F_token (Or.inr (slot_ne (Or.inr (hw _ (List.mem_of_getElem? (i := 36) rfl))) (Or.inr (hw _ (List.mem_of_getElem? (i := 34) rfl))) (by decide) (t := .long) (t' := (.object "com/example/earnest_lease/earnestlease/protocol/Reply$Outcome")) (by decide) (by decide))))
  have E_a1_5 : Exa Z h2 a1 "com/example/earnest_lease/earnestlease/protocol/Reply" := (Exa.wr W2 E_a1)
  refine own_putF X2 hx hZ hown (hw _ (List.mem_of_getElem? (i := 35) rfl)) Via.refl e2 F_token_4 E_a1_5 (Or.inr ⟨(hw _ (List.mem_of_getElem? (i := 36) rfl)), rfl, hnm⟩) (hw _ (List.mem_of_getElem? (i := 13) rfl)) (ty := .long) (by decide) rfl rfl (hb hby d3_11) ?_
  intro T3 h3 X3 e3 W3
  have F3 := Fld.same W3 F_token_4
  have N3 := Fr.snoc X3 N2 g_a1
  have sz3 : n0 ≤ h3.size := Nat.le_trans sz2 (Keep.of_wr W3).1
  have K3 : Keep h0 h3 [a1] := K2.wr W3 (Or.inl (List.mem_cons_self ..))
  show own_Go p e below _ T3 (mkF m 14 #[.val (.ref a1), .val (.ref a2), .val (.long (0 : Int64)), .second, .val (.ref a4)] [])
  refine own_by (fun t_ k_ => XS.aloadN X3.here hx rfl (hb hby d3_14) rfl rfl k_) ?_
  show own_Go p e below _ T3 (mkF m 15 #[.val (.ref a1), .val (.ref a2), .val (.long (0 : Int64)), .second, .val (.ref a4)] [(.ref a1)])
  refine own_by (fun t_ k_ => XS.aload X3.here hx rfl (hb hby d3_15) rfl rfl k_) ?_
  show own_Go p e below _ T3 (mkF m 17 #[.val (.ref a1), .val (.ref a2), .val (.long (0 : Int64)), .second, .val (.ref a4)] [(.ref a4), (.ref a1)])
  have F_reason_7 : Fld Z h3 a1 "com/example/earnest_lease/earnestlease/protocol/Reply" "reason" "Ljava/lang/String;" .null := (Fld.other W3 (Fld.other W2 F_reason (Or.inr (slot_ne (Or.inr (hw _ (List.mem_of_getElem? (i := 38) rfl))) (Or.inr (hw _ (List.mem_of_getElem? (i := 34) rfl))) (by decide) (t := (.object "java/lang/String")) (t' := (.object "com/example/earnest_lease/earnestlease/protocol/Reply$Outcome")) (by decide) (by decide)))) (Or.inr (slot_ne (Or.inr (hw _ (List.mem_of_getElem? (i := 38) rfl))) (Or.inr (hw _ (List.mem_of_getElem? (i := 36) rfl))) (by decide) (t := (.object "java/lang/String")) (t' := .long) (by decide) (by decide))))
  have E_a1_8 : Exa Z h3 a1 "com/example/earnest_lease/earnestlease/protocol/Reply" := (Exa.wr W3 E_a1_5)
  refine own_putF X3 hx hZ hown (hw _ (List.mem_of_getElem? (i := 37) rfl)) Via.refl e3 F_reason_7 E_a1_8 (Or.inr ⟨(hw _ (List.mem_of_getElem? (i := 38) rfl)), rfl, hnm⟩) (hw _ (List.mem_of_getElem? (i := 13) rfl)) (ty := (.object "java/lang/String")) (by decide) rfl rfl (hb hby d3_17) ?_
  intro T6 h6 X6 e6 W6
  have F6 := Fld.same W6 F_reason_7
  have N6 := Fr.snoc X6 N3 g_a1
  have sz6 : n0 ≤ h6.size := Nat.le_trans sz3 (Keep.of_wr W6).1
  have K6 : Keep h0 h6 [a1] := K3.wr W6 (Or.inl (List.mem_cons_self ..))
  show own_Go p e below _ T6 (mkF m 20 #[.val (.ref a1), .val (.ref a2), .val (.long (0 : Int64)), .second, .val (.ref a4)] [])
  refine own_retV X6 hx hlk Bd.returns (hb hby d3_20) e6 (by decide) (by decide) ?_
  have E_a1_9 : Exa Z h6 a1 "com/example/earnest_lease/earnestlease/protocol/Reply" := (Exa.wr W6 E_a1_8)
  have F2_10 : Fld Z h6 a1 "com/example/earnest_lease/earnestlease/protocol/Reply" "outcome" "Lcom/example/earnest_lease/earnestlease/protocol/Reply$Outcome;" (.ref a2) := (Fld.other W6 (Fld.other W3 F2 (Or.inr (slot_ne (Or.inr (hw _ (List.mem_of_getElem? (i := 34) rfl))) (Or.inr (hw _ (List.mem_of_getElem? (i := 36) rfl))) (by decide) (t := (.object "com/example/earnest_lease/earnestlease/protocol/Reply$Outcome")) (t' := .long) (by decide) (by decide)))) (Or.inr (slot_ne (Or.inr (hw _ (List.mem_of_getElem? (i := 34) rfl))) (Or.inr (hw _ (List.mem_of_getElem? (i := 38) rfl))) (by decide) (t := (.object "com/example/earnest_lease/earnestlease/protocol/Reply$Outcome")) (t' := (.object "java/lang/String")) (by decide) (by decide))))
  have F3_11 : Fld Z h6 a1 "com/example/earnest_lease/earnestlease/protocol/Reply" "token" "J" (.long (0 : Int64)) := (Fld.other W6 F3 (Or.inr (slot_ne (Or.inr (hw _ (List.mem_of_getElem? (i := 36) rfl))) (Or.inr (hw _ (List.mem_of_getElem? (i := 38) rfl))) (by decide) (t := .long) (t' := (.object "java/lang/String")) (by decide) (by decide))))
  exact ⟨rfl, N6, K6, E_a1_9, F2_10, F3_11, F6⟩
theorem ef_2 (m : MethodId) (a1 : Addr) : entryFrame m #[(.ref a1)] 1 = mkF m 0 #[.val (.ref a1)] [] := by first | (simp [entryFrame, mkF, argsToLocals, Value.category]; done) | rfl
set_option maxRecDepth 65536 in
set_option maxHeartbeats 40000000 in
theorem rm2 (l : Launch) (Z : State) (a0 : Array Value) (hw : ∀ d ∈ tables_1, d.before a0 Z = true) (ws : List Jvm.Cond) (a1 : Addr) (h0 : Heap) (n0 : Nat) (Z0 : n0 ≤ h0.size) (hEL : EW Z a0 consts_1) :
    MetFree l (⟨"com/example/earnest_lease/earnestlease/protocol/Reply", "of", "(Lcom/example/earnest_lease/earnestlease/protocol/Reply$Outcome;)Lcom/example/earnest_lease/earnestlease/protocol/Reply;"⟩ : MethodName) (head1 (Jvm.Cond.code (⟨"com/example/earnest_lease/earnestlease/protocol/Reply", "of", "(Lcom/example/earnest_lease/earnestlease/protocol/Reply$Outcome;)Lcom/example/earnest_lease/earnestlease/protocol/Reply;"⟩ : MethodName) prog_50_method_4_code 1 (some (.object "com/example/earnest_lease/earnestlease/protocol/Reply")) :: ws) ({ frames := 3, cells := 3, slots := 71, locals := 43 } : Room)) (fun a U => a = #[(.ref a1)] ∧ Z.Warmed39 U.vm ∧ U.heap = h0 ∧ CHv Z consts_1 U.vm h0) (fun _ _ _ _ _ => True) (fun _ U o U' => ∃ v L, o = .returned v ∧ Q2 Z a1 h0 n0 v U'.heap L ∧ CHr Z consts_1 U.vm U.heap U'.vm U'.heap ∧ ReturnedEndW U o U' L ({ frames := 3, cells := 3, slots := 71, locals := 43 } : Room).cells ({ frames := 3, cells := 3, slots := 71, locals := 43 } : Room).slots) := by
  refine MetFree.of_bodySF (plainFor_of_name pn_2) hisR ?_
  intro p e s m args below meth c s₁ Bd hml0 hP hK
  obtain ⟨rfl, hZ, hh, hCH⟩ := hP
  have hx := Bd.exec
  have hby := Bd.bytes
  have hml : c.maxLocals = 1 := hml0
  have hown : s.vm.findClass "com/example/earnest_lease/earnestlease/protocol/Reply" = some m.cls := findClass_of_methodNamed Bd.named
  have hnm := (name_of_methodNamed Bd.named Bd.method).1
  have hlk : meth.locks = false := BodyLoose.notSynchronized Bd
  have X0 : Stand p l e ({ frames := 3, cells := 3, slots := 71, locals := 43 } : Room) (s.setVm s.vm) m #[(.ref a1)] below meth c s₁ [] 0 0 := Stand.of_body Bd
  have e0 : s₁.heap = h0 := by rw [← hh, Bd.state]; rfl
  have N0 := Fr.nil n0
  have hS0 : s.Since s.vm 0 := (State.WarmedH.refl s).since 0
  have hk0 : 0 ≤ h0.size := Nat.zero_le _
  have hwS := own_strs hw
  refine own_startH (Q := Q2 Z a1 h0 n0) (ef_2 m a1) ?_
  have K0 := Keep.refl h0 []
  show own_Go p e below _ s₁ (mkF m 0 #[.val (.ref a1)] [])
  refine own_newO X0 hx hZ hown (hw _ (List.mem_of_getElem? (i := 12) rfl)) (hw _ (List.mem_of_getElem? (i := 13) rfl)) (hw _ (List.mem_of_getElem? (i := 10) rfl)) e0 (hb hby d2_0) (by decide) (by decide) ?_
  intro T1 h1 b1 X1 e1 g1 E1 A1 D1
  have g_b1 : n0 ≤ b1 := Nat.le_trans Z0 (Nat.le_of_eq g1.symm)
  have sz1 : n0 ≤ h1.size := Nat.le_trans Z0 E1.1
  have szk_b1 : h0.size ≤ b1 := Nat.le_trans K0.1 (Nat.le_of_eq g1.symm)
  have K1 : Keep h0 h1 [] := K0.ext E1
  have F2_0 : Fld Z h1 b1 "com/example/earnest_lease/earnestlease/protocol/Reply" "outcome" "Lcom/example/earnest_lease/earnestlease/protocol/Reply$Outcome;" .null := D1 (Or.inr (hw _ (List.mem_of_getElem? (i := 34) rfl))) (ty := (.object "com/example/earnest_lease/earnestlease/protocol/Reply$Outcome")) (by decide)
  have F3_0 : Fld Z h1 b1 "com/example/earnest_lease/earnestlease/protocol/Reply" "token" "J" (.long (0 : Int64)) := D1 (Or.inr (hw _ (List.mem_of_getElem? (i := 36) rfl))) (ty := .long) (by decide)
  have F4_0 : Fld Z h1 b1 "com/example/earnest_lease/earnestlease/protocol/Reply" "reason" "Ljava/lang/String;" .null := D1 (Or.inr (hw _ (List.mem_of_getElem? (i := 38) rfl))) (ty := (.object "java/lang/String")) (by decide)
  have HR1 := CHr.ext (Z := Z) (EL := consts_1) (vm := s.vm) E1 hCH
  show own_Go p e below _ T1 (mkF m 3 #[.val (.ref a1)] [(.ref b1)])
  refine own_by (fun t_ k_ => XS.dup X1.here hx rfl (hb hby d2_3) rfl rfl k_) ?_
  show own_Go p e below _ T1 (mkF m 4 #[.val (.ref a1)] [(.ref b1), (.ref b1)])
  refine own_by (fun t_ k_ => XS.aloadN X1.here hx rfl (hb hby d2_4) rfl rfl k_) ?_
  show own_Go p e below _ T1 (mkF m 5 #[.val (.ref a1)] [(.ref a1), (.ref b1), (.ref b1)])
  refine own_by (fun t_ k_ => XT.lconst X1.here hx rfl (hb hby d2_5) k_) ?_
  show own_Go p e below _ T1 (mkF m 6 #[.val (.ref a1)] [(.long (0 : Int64)), (.ref a1), (.ref b1), (.ref b1)])
  refine own_ldcC X1 hx hZ hown (hw _ (List.mem_of_getElem? (i := 14) rfl)) hwS e1 hS0 (Nat.le_trans hk0 E1.1) hEL (by decide) HR1.1 [] (0 : Int32) (by decide) (by decide) (by decide) (hb hby d2_6) 64 (by decide) (by decide) (by decide) (by decide) ?_
  intro b5 T5 h5 k5 d5 X5 e5 E5 hS5 hk5 hZ hown Es5 C5 W5 V5 H5
  have sz5 : n0 ≤ h5.size := Nat.le_trans sz1 E5.1
  have HR5 := HR1.trans H5
  have K5 : Keep h0 h5 [] := K1.ext E5
  have A1_6 : Exa Z h5 b1 "com/example/earnest_lease/earnestlease/protocol/Reply" := (Exa.ext E5 A1)
  have ne_b1_b5 : b1 ≠ b5 := ne_exa A1_6 Es5 (by decide)
  have ne_b1_d5 : b1 ≠ d5 := own_exa_arr A1_6 (hw _ (List.mem_of_getElem? (i := 13) rfl)) V5
  show own_Go p e below _ T5 (mkF m 8 #[.val (.ref a1)] [(.ref b5), (.long (0 : Int64)), (.ref a1), (.ref b1), (.ref b1)])
  have F2_7 : Fld Z h5 b1 "com/example/earnest_lease/earnestlease/protocol/Reply" "outcome" "Lcom/example/earnest_lease/earnestlease/protocol/Reply$Outcome;" .null := (Fld.ext E5 F2_0)
  have F3_8 : Fld Z h5 b1 "com/example/earnest_lease/earnestlease/protocol/Reply" "token" "J" (.long (0 : Int64)) := (Fld.ext E5 F3_0)
  have F4_9 : Fld Z h5 b1 "com/example/earnest_lease/earnestlease/protocol/Reply" "reason" "Ljava/lang/String;" .null := (Fld.ext E5 F4_0)
  refine own_callC (W := 1) X5 hx hZ (y := (⟨"com/example/earnest_lease/earnestlease/protocol/Reply", "<init>", "(Lcom/example/earnest_lease/earnestlease/protocol/Reply$Outcome;JLjava/lang/String;)V"⟩ : MethodName)) rfl hown (hw _ (List.mem_of_getElem? (i := 22) rfl)) (hw _ (List.mem_of_getElem? (i := 23) rfl)) (hw _ (List.mem_of_getElem? (i := 10) rfl)) (hw _ (List.mem_of_getElem? (i := 24) rfl)) (by decide) (by rw [hml]; rfl) (argsL := [(.ref a1), (.long (0 : Int64)), (.ref b5)]) pd_2 rfl (a := b1) (rm3 l Z a0 hw [] b1 a1 b5 h5 n0 sz5 A1_6 F2_7 F3_8 F4_9 g_b1) (by decide) (by decide) (Nat.le_of_eq rfl) (by decide) (by decide) (rest := [(.ref b1)]) e5 rfl (hb hby d2_8) ?_
  intro v11 T11 L11 X11 hQ11
  obtain ⟨rfl, N11q, K11q, E11, Fo11, Ft11, Fr11⟩ := hQ11
  have N11 := Fr.app N0 N11q
  have HR11 := HR5.trans (CHr.keep K11q (sfS (Safe.exa hZ.alike A1_6 (by decide) (by decide)) sf0) HR5.1)
  have K11 : Keep h0 T11.heap [] := K5.trans K11q (allS (Or.inr szk_b1) all0)
  show own_Go p e below _ T11 (mkF m 11 #[.val (.ref a1)] [(.ref b1)])
  have Es5_12 : Exa Z T11.heap b5 "java/lang/String" := (Exa.keep Es5 K11q)
  have W5_13 : Fld Z T11.heap b5 "java/lang/String" "value" "[B" (.ref d5) := (Fld.keep W5 K11q (ninS (Ne.symm ne_b1_b5) nin0))
  have V5_14 : own_Arr Z T11.heap d5 .byte (([] : List Int32).map Value.int) := (own_Arr.keep V5 K11q (ninS (Ne.symm ne_b1_d5) nin0))
  refine own_retRh X11 hx hS5 (Nat.le_trans hk5 K11q.1) hZ hEL hh HR11 hlk Bd.returns rfl rfl rfl (hb hby d2_11) rfl (by decide) (by decide) ?_
  exact ⟨b1, b5, d5, rfl, N11, K11, ⟨E11, Fo11, Ft11, Fr11⟩, Es5_12, W5_13, V5_14⟩
theorem ef_6 (m : MethodId) (a1 : Addr) : entryFrame m #[(.ref a1)] 1 = mkF m 0 #[.val (.ref a1)] [] := by first | (simp [entryFrame, mkF, argsToLocals, Value.category]; done) | rfl
set_option maxRecDepth 65536 in
set_option maxHeartbeats 40000000 in
theorem rm6 (l : Launch) (Z : State) (a0 : Array Value) (hw : ∀ d ∈ tables_1, d.before a0 Z = true) (ws : List Jvm.Cond) (a1 : Addr) (o1 : Addr) (h0 : Heap) (n0 : Nat) (Z0 : n0 ≤ h0.size) (F_1 : Fld Z h0 a1 "com/example/earnest_lease/earnestlease/protocol/Reply" "outcome" "Lcom/example/earnest_lease/earnestlease/protocol/Reply$Outcome;" (.ref o1)) :
    MetFree l (⟨"com/example/earnest_lease/earnestlease/protocol/Reply", "outcome", "()Lcom/example/earnest_lease/earnestlease/protocol/Reply$Outcome;"⟩ : MethodName) (head1 (Jvm.Cond.code (⟨"com/example/earnest_lease/earnestlease/protocol/Reply", "outcome", "()Lcom/example/earnest_lease/earnestlease/protocol/Reply$Outcome;"⟩ : MethodName) prog_50_method_9_code 1 (some (.object "com/example/earnest_lease/earnestlease/protocol/Reply$Outcome")) :: ws) ({ frames := 0, cells := 0, slots := 0, locals := 0 } : Room)) (fun a U => a = #[(.ref a1)] ∧ Z.Warmed39 U.vm ∧ U.heap = h0) (fun _ _ _ _ _ => True) (fun _ U o U' => ∃ v L, o = .returned v ∧ QR o1 h0 n0 v U'.heap L ∧ FrameEnd U o U' L ({ frames := 0, cells := 0, slots := 0, locals := 0 } : Room).cells ({ frames := 0, cells := 0, slots := 0, locals := 0 } : Room).slots) := by
  refine MetFree.of_bodySF (plainFor_of_name pn_2) hisR ?_
  intro p e s m args below meth c s₁ Bd hml0 hP hK
  obtain ⟨rfl, hZ, hh⟩ := hP
  have hx := Bd.exec
  have hby := Bd.bytes
  have hml : c.maxLocals = 1 := hml0
  have hown : s.vm.findClass "com/example/earnest_lease/earnestlease/protocol/Reply" = some m.cls := findClass_of_methodNamed Bd.named
  have hnm := (name_of_methodNamed Bd.named Bd.method).1
  have hlk : meth.locks = false := BodyLoose.notSynchronized Bd
  have X0 : Stand p l e ({ frames := 0, cells := 0, slots := 0, locals := 0 } : Room) s m #[(.ref a1)] below meth c s₁ [] 0 0 := Stand.of_body Bd
  have e0 : s₁.heap = h0 := by rw [← hh, Bd.state]; rfl
  have N0 := Fr.nil n0
  refine own_start (Q := QR o1 h0 n0) (ef_6 m a1) ?_
  show own_Go p e below _ s₁ (mkF m 0 #[.val (.ref a1)] [])
  refine own_by (fun t_ k_ => XS.aloadN X0.here hx rfl (hb hby d6_0) rfl rfl k_) ?_
  show own_Go p e below _ s₁ (mkF m 1 #[.val (.ref a1)] [(.ref a1)])
  refine own_getF X0 hx hZ hown (hw _ (List.mem_of_getElem? (i := 33) rfl)) Via.refl e0 F_1 (hb hby d6_1) ?_
  intro T1 X1 e1
  show own_Go p e below _ T1 (mkF m 4 #[.val (.ref a1)] [(.ref o1)])
  refine own_retR X1 hx hlk Bd.returns rfl rfl rfl (hb hby d6_4) e1 (by decide) (by decide) ?_
  exact ⟨rfl, N0, rfl⟩
theorem ef_7 (m : MethodId) (a1 : Addr) : entryFrame m #[(.ref a1)] 1 = mkF m 0 #[.val (.ref a1)] [] := by first | (simp [entryFrame, mkF, argsToLocals, Value.category]; done) | rfl
set_option maxRecDepth 65536 in
set_option maxHeartbeats 40000000 in
theorem rm7 (l : Launch) (Z : State) (a0 : Array Value) (hw : ∀ d ∈ tables_1, d.before a0 Z = true) (ws : List Jvm.Cond) (a1 : Addr) (h0 : Heap) (n0 : Nat) (Z0 : n0 ≤ h0.size) (F_1 : Fld Z h0 a1 "com/example/earnest_lease/earnestlease/protocol/Reply" "token" "J" (.long (0 : Int64))) :
    MetFree l (⟨"com/example/earnest_lease/earnestlease/protocol/Reply", "token", "()J"⟩ : MethodName) (head1 (Jvm.Cond.code (⟨"com/example/earnest_lease/earnestlease/protocol/Reply", "token", "()J"⟩ : MethodName) prog_50_method_10_code 1 (some .long) :: ws) ({ frames := 0, cells := 0, slots := 0, locals := 0 } : Room)) (fun a U => a = #[(.ref a1)] ∧ Z.Warmed39 U.vm ∧ U.heap = h0) (fun _ _ _ _ _ => True) (fun _ U o U' => ∃ v L, o = .returned v ∧ QJ h0 n0 v U'.heap L ∧ FrameEnd U o U' L ({ frames := 0, cells := 0, slots := 0, locals := 0 } : Room).cells ({ frames := 0, cells := 0, slots := 0, locals := 0 } : Room).slots) := by
  refine MetFree.of_bodySF (plainFor_of_name pn_2) hisR ?_
  intro p e s m args below meth c s₁ Bd hml0 hP hK
  obtain ⟨rfl, hZ, hh⟩ := hP
  have hx := Bd.exec
  have hby := Bd.bytes
  have hml : c.maxLocals = 1 := hml0
  have hown : s.vm.findClass "com/example/earnest_lease/earnestlease/protocol/Reply" = some m.cls := findClass_of_methodNamed Bd.named
  have hnm := (name_of_methodNamed Bd.named Bd.method).1
  have hlk : meth.locks = false := BodyLoose.notSynchronized Bd
  have X0 : Stand p l e ({ frames := 0, cells := 0, slots := 0, locals := 0 } : Room) s m #[(.ref a1)] below meth c s₁ [] 0 0 := Stand.of_body Bd
  have e0 : s₁.heap = h0 := by rw [← hh, Bd.state]; rfl
  have N0 := Fr.nil n0
  refine own_start (Q := QJ h0 n0) (ef_7 m a1) ?_
  show own_Go p e below _ s₁ (mkF m 0 #[.val (.ref a1)] [])
  refine own_by (fun t_ k_ => XS.aloadN X0.here hx rfl (hb hby d7_0) rfl rfl k_) ?_
  show own_Go p e below _ s₁ (mkF m 1 #[.val (.ref a1)] [(.ref a1)])
  refine own_getF X0 hx hZ hown (hw _ (List.mem_of_getElem? (i := 35) rfl)) Via.refl e0 F_1 (hb hby d7_1) ?_
  intro T1 X1 e1
  show own_Go p e below _ T1 (mkF m 4 #[.val (.ref a1)] [(.long (0 : Int64))])
  refine own_retJ X1 hx hlk Bd.returns (hb hby d7_4) e1 (by decide) (by decide) ?_
  exact ⟨rfl, N0, rfl⟩
theorem ef_8 (m : MethodId) (a1 : Addr) : entryFrame m #[(.ref a1)] 1 = mkF m 0 #[.val (.ref a1)] [] := by first | (simp [entryFrame, mkF, argsToLocals, Value.category]; done) | rfl
set_option maxRecDepth 65536 in
set_option maxHeartbeats 40000000 in
theorem rm8 (l : Launch) (Z : State) (a0 : Array Value) (hw : ∀ d ∈ tables_1, d.before a0 Z = true) (ws : List Jvm.Cond) (a1 : Addr) (o1 : Addr) (h0 : Heap) (n0 : Nat) (Z0 : n0 ≤ h0.size) (F_1 : Fld Z h0 a1 "com/example/earnest_lease/earnestlease/protocol/Reply" "reason" "Ljava/lang/String;" (.ref o1)) :
    MetFree l (⟨"com/example/earnest_lease/earnestlease/protocol/Reply", "reason", "()Ljava/lang/String;"⟩ : MethodName) (head1 (Jvm.Cond.code (⟨"com/example/earnest_lease/earnestlease/protocol/Reply", "reason", "()Ljava/lang/String;"⟩ : MethodName) prog_50_method_11_code 1 (some (.object "java/lang/String")) :: ws) ({ frames := 0, cells := 0, slots := 0, locals := 0 } : Room)) (fun a U => a = #[(.ref a1)] ∧ Z.Warmed39 U.vm ∧ U.heap = h0) (fun _ _ _ _ _ => True) (fun _ U o U' => ∃ v L, o = .returned v ∧ QR o1 h0 n0 v U'.heap L ∧ FrameEnd U o U' L ({ frames := 0, cells := 0, slots := 0, locals := 0 } : Room).cells ({ frames := 0, cells := 0, slots := 0, locals := 0 } : Room).slots) := by
  refine MetFree.of_bodySF (plainFor_of_name pn_2) hisR ?_
  intro p e s m args below meth c s₁ Bd hml0 hP hK
  obtain ⟨rfl, hZ, hh⟩ := hP
  have hx := Bd.exec
  have hby := Bd.bytes
  have hml : c.maxLocals = 1 := hml0
  have hown : s.vm.findClass "com/example/earnest_lease/earnestlease/protocol/Reply" = some m.cls := findClass_of_methodNamed Bd.named
  have hnm := (name_of_methodNamed Bd.named Bd.method).1
  have hlk : meth.locks = false := BodyLoose.notSynchronized Bd
  have X0 : Stand p l e ({ frames := 0, cells := 0, slots := 0, locals := 0 } : Room) s m #[(.ref a1)] below meth c s₁ [] 0 0 := Stand.of_body Bd
  have e0 : s₁.heap = h0 := by rw [← hh, Bd.state]; rfl
  have N0 := Fr.nil n0
  refine own_start (Q := QR o1 h0 n0) (ef_8 m a1) ?_
  show own_Go p e below _ s₁ (mkF m 0 #[.val (.ref a1)] [])
  refine own_by (fun t_ k_ => XS.aloadN X0.here hx rfl (hb hby d8_0) rfl rfl k_) ?_
  show own_Go p e below _ s₁ (mkF m 1 #[.val (.ref a1)] [(.ref a1)])
  refine own_getF X0 hx hZ hown (hw _ (List.mem_of_getElem? (i := 37) rfl)) Via.refl e0 F_1 (hb hby d8_1) ?_
  intro T1 X1 e1
  show own_Go p e below _ T1 (mkF m 4 #[.val (.ref a1)] [(.ref o1)])
  refine own_retR X1 hx hlk Bd.returns rfl rfl rfl (hb hby d8_4) e1 (by decide) (by decide) ?_
  exact ⟨rfl, N0, rfl⟩
theorem ef_9 (m : MethodId) (a1 : Addr) : entryFrame m #[(.ref a1)] 1 = mkF m 0 #[.val (.ref a1)] [] := by first | (simp [entryFrame, mkF, argsToLocals, Value.category]; done) | rfl
set_option maxRecDepth 65536 in
set_option maxHeartbeats 40000000 in
theorem rm9 (l : Launch) (Z : State) (a0 : Array Value) (hw : ∀ d ∈ tables_1, d.before a0 Z = true) (ws : List Jvm.Cond) (a1 : Addr) (d1 : Addr) (h0 : Heap) (n0 : Nat) (Z0 : n0 ≤ h0.size) (F_1 : Fld Z h0 a1 "java/lang/String" "value" "[B" (.ref d1)) (V_1 : own_Arr Z h0 d1 .byte (([] : List Int32).map Value.int)) :
    MetFree l (⟨"java/lang/String", "isEmpty", "()Z"⟩ : MethodName) (head1 (Jvm.Cond.code (⟨"java/lang/String", "isEmpty", "()Z"⟩ : MethodName) jdk_42_method_55_code 1 (some .boolean) :: ws) ({ frames := 0, cells := 0, slots := 0, locals := 0 } : Room)) (fun a U => a = #[(.ref a1)] ∧ Z.Warmed39 U.vm ∧ U.heap = h0) (fun _ _ _ _ _ => True) (fun _ U o U' => ∃ v L, o = .returned v ∧ QZ (1 : Int32) h0 n0 v U'.heap L ∧ FrameEnd U o U' L ({ frames := 0, cells := 0, slots := 0, locals := 0 } : Room).cells ({ frames := 0, cells := 0, slots := 0, locals := 0 } : Room).slots) := by
  refine MetFree.of_bodySF (plainFor_of_name pn_9) hisR ?_
  intro p e s m args below meth c s₁ Bd hml0 hP hK
  obtain ⟨rfl, hZ, hh⟩ := hP
  have hx := Bd.exec
  have hby := Bd.bytes
  have hml : c.maxLocals = 1 := hml0
  have hown : s.vm.findClass "java/lang/String" = some m.cls := findClass_of_methodNamed Bd.named
  have hnm := (name_of_methodNamed Bd.named Bd.method).1
  have hlk : meth.locks = false := BodyLoose.notSynchronized Bd
  have X0 : Stand p l e ({ frames := 0, cells := 0, slots := 0, locals := 0 } : Room) s m #[(.ref a1)] below meth c s₁ [] 0 0 := Stand.of_body Bd
  have e0 : s₁.heap = h0 := by rw [← hh, Bd.state]; rfl
  have N0 := Fr.nil n0
  refine own_start (Q := QZ (1 : Int32) h0 n0) (ef_9 m a1) ?_
  show own_Go p e below _ s₁ (mkF m 0 #[.val (.ref a1)] [])
  refine own_by (fun t_ k_ => XS.aloadN X0.here hx rfl (hb hby d9_0) rfl rfl k_) ?_
  show own_Go p e below _ s₁ (mkF m 1 #[.val (.ref a1)] [(.ref a1)])
  refine own_getF X0 hx hZ hown (hw _ (List.mem_of_getElem? (i := 59) rfl)) Via.refl e0 F_1 (hb hby d9_1) ?_
  intro T1 X1 e1
  show own_Go p e below _ T1 (mkF m 4 #[.val (.ref a1)] [(.ref d1)])
  refine own_alen X1 hx hZ e1 V_1 (hb hby d9_4) ?_
  show own_Go p e below _ T1 (mkF m 5 #[.val (.ref a1)] [(.int (0 : Int32))])
  refine own_if X1 hx 12 (hb hby d9_5) (by decide) (by decide) (fun hc => absurd (show (0 : Int32) = (0 : Int32) from by decide) (by first | exact hc | exact not_not_intro hc)) (fun _ => ?_)
  show own_Go p e below _ T1 (mkF m 8 #[.val (.ref a1)] [])
  refine own_by (fun t_ k_ => XS.iconst X1.here hx rfl (hb hby d9_8) k_) ?_
  show own_Go p e below _ T1 (mkF m 9 #[.val (.ref a1)] [(.int (1 : Int32))])
  refine own_by (fun t_ k_ => XS.goto X1.here hx rfl (pc0 := 9) (pc' := 13) rfl (hb hby d9_9) (by decide) (by decide) k_) ?_
  show own_Go p e below _ T1 (mkF m 13 #[.val (.ref a1)] [(.int (1 : Int32))])
  refine own_retZ X1 hx hlk Bd.returns (by decide) (hb hby d9_13) e1 (by decide) (by decide) ?_
  exact ⟨rfl, N0, rfl⟩
theorem ef_10 (m : MethodId) (a1 : Addr) : entryFrame m #[(.ref a1)] 1 = mkF m 0 #[.val (.ref a1)] [] := by first | (simp [entryFrame, mkF, argsToLocals, Value.category]; done) | rfl
set_option maxRecDepth 65536 in
set_option maxHeartbeats 40000000 in
theorem rm10 (l : Launch) (Z : State) (a0 : Array Value) (hw : ∀ d ∈ tables_1, d.before a0 Z = true) (ws : List Jvm.Cond) (a1 : Addr) (o1 : Addr) (a_QUEUED : Addr) (h0 : Heap) (n0 : Nat) (Z0 : n0 ≤ h0.size) (F_1 : Fld Z h0 a1 "com/example/earnest_lease/earnestlease/protocol/Reply" "outcome" "Lcom/example/earnest_lease/earnestlease/protocol/Reply$Outcome;" (.ref o1)) (S_QUEUED : Sta Z h0 "com/example/earnest_lease/earnestlease/protocol/Reply$Outcome" "QUEUED" "Lcom/example/earnest_lease/earnestlease/protocol/Reply$Outcome;" (.ref a_QUEUED)) :
    MetFree l (⟨"com/example/earnest_lease/earnestlease/protocol/Reply", "interim", "()Z"⟩ : MethodName) (head1 (Jvm.Cond.code (⟨"com/example/earnest_lease/earnestlease/protocol/Reply", "interim", "()Z"⟩ : MethodName) prog_50_method_2_code 1 (some .boolean) :: ws) ({ frames := 0, cells := 0, slots := 0, locals := 0 } : Room)) (fun a U => a = #[(.ref a1)] ∧ Z.Warmed39 U.vm ∧ U.heap = h0) (fun _ _ _ _ _ => True) (fun _ U o U' => ∃ v L, o = .returned v ∧ QZ (own_iq o1 a_QUEUED) h0 n0 v U'.heap L ∧ FrameEnd U o U' L ({ frames := 0, cells := 0, slots := 0, locals := 0 } : Room).cells ({ frames := 0, cells := 0, slots := 0, locals := 0 } : Room).slots) := by
  refine MetFree.of_bodySF (plainFor_of_name pn_2) hisR ?_
  intro p e s m args below meth c s₁ Bd hml0 hP hK
  obtain ⟨rfl, hZ, hh⟩ := hP
  have hx := Bd.exec
  have hby := Bd.bytes
  have hml : c.maxLocals = 1 := hml0
  have hown : s.vm.findClass "com/example/earnest_lease/earnestlease/protocol/Reply" = some m.cls := findClass_of_methodNamed Bd.named
  have hnm := (name_of_methodNamed Bd.named Bd.method).1
  have hlk : meth.locks = false := BodyLoose.notSynchronized Bd
  have X0 : Stand p l e ({ frames := 0, cells := 0, slots := 0, locals := 0 } : Room) s m #[(.ref a1)] below meth c s₁ [] 0 0 := Stand.of_body Bd
  have e0 : s₁.heap = h0 := by rw [← hh, Bd.state]; rfl
  have N0 := Fr.nil n0
  refine own_start (Q := QZ (own_iq o1 a_QUEUED) h0 n0) (ef_10 m a1) ?_
  show own_Go p e below _ s₁ (mkF m 0 #[.val (.ref a1)] [])
  refine own_by (fun t_ k_ => XS.aloadN X0.here hx rfl (hb hby d10_0) rfl rfl k_) ?_
  show own_Go p e below _ s₁ (mkF m 1 #[.val (.ref a1)] [(.ref a1)])
  refine own_getF X0 hx hZ hown (hw _ (List.mem_of_getElem? (i := 33) rfl)) Via.refl e0 F_1 (hb hby d10_1) ?_
  intro T1 X1 e1
  show own_Go p e below _ T1 (mkF m 4 #[.val (.ref a1)] [(.ref o1)])
  refine own_getS X1 hx hZ hown (hw _ (List.mem_of_getElem? (i := 65) rfl)) Via.refl e1 S_QUEUED (hb hby d10_4) ?_
  intro T2 X2 e2
  show own_Go p e below _ T2 (mkF m 7 #[.val (.ref a1)] [(.ref a_QUEUED), (.ref o1)])
  refine own_acmpNe X2 hx 14 (hb hby d10_7) (by decide) (by decide) (fun (hc7 : ¬ o1 = a_QUEUED) => ?_) (fun (hc7 : o1 = a_QUEUED) => ?_)
  · show own_Go p e below _ T2 (mkF m 14 #[.val (.ref a1)] [])
    refine own_by (fun t_ k_ => XS.iconst X2.here hx rfl (hb hby d10_14) k_) ?_
    show own_Go p e below _ T2 (mkF m 15 #[.val (.ref a1)] [(.int (0 : Int32))])
    refine own_retZ X2 hx hlk Bd.returns (by decide) (hb hby d10_15) e2 (by decide) (by decide) ?_
    exact ⟨by simp [own_iq, hc7], N0, rfl⟩
  · show own_Go p e below _ T2 (mkF m 10 #[.val (.ref a1)] [])
    refine own_by (fun t_ k_ => XS.iconst X2.here hx rfl (hb hby d10_10) k_) ?_
    show own_Go p e below _ T2 (mkF m 11 #[.val (.ref a1)] [(.int (1 : Int32))])
    refine own_by (fun t_ k_ => XS.goto X2.here hx rfl (pc0 := 11) (pc' := 15) rfl (hb hby d10_11) (by decide) (by decide) k_) ?_
    show own_Go p e below _ T2 (mkF m 15 #[.val (.ref a1)] [(.int (1 : Int32))])
    refine own_retZ X2 hx hlk Bd.returns (by decide) (hb hby d10_15) e2 (by decide) (by decide) ?_
    exact ⟨by simp [own_iq, hc7], N0, rfl⟩
theorem ef_0 (m : MethodId) (p1 : Int32) : entryFrame m #[(.int p1)] maxLocals = mkF m 0 #[.val (.int p1), .unset, .unset, .unset, .unset, .unset] [] := by first | (simp [entryFrame, mkF, argsToLocals, Value.category, maxLocals]; done) | rfl
set_option maxRecDepth 65536 in
set_option maxHeartbeats 40000000 in
theorem rm0 (l : Launch) (Z : State) (a0 : Array Value) (hw : ∀ d ∈ tables_1, d.before a0 Z = true) (ws : List Jvm.Cond) (p1 : Int32) (a_GRANTED : Addr) (a_HELD : Addr) (a_RENEWED : Addr) (a_RELEASED : Addr) (a_NOT_HELD : Addr) (a_REFUSED : Addr) (a_NO_LEADER : Addr) (a_QUEUED : Addr) (a_TAKEN : Addr) (h0 : Heap) (n0 : Nat) (Z0 : n0 ≤ h0.size) (S_GRANTED : Sta Z h0 "com/example/earnest_lease/earnestlease/protocol/Reply$Outcome" "GRANTED" "Lcom/example/earnest_lease/earnestlease/protocol/Reply$Outcome;" (.ref a_GRANTED)) (S_HELD : Sta Z h0 "com/example/earnest_lease/earnestlease/protocol/Reply$Outcome" "HELD" "Lcom/example/earnest_lease/earnestlease/protocol/Reply$Outcome;" (.ref a_HELD)) (S_RENEWED : Sta Z h0 "com/example/earnest_lease/earnestlease/protocol/Reply$Outcome" "RENEWED" "Lcom/example/earnest_lease/earnestlease/protocol/Reply$Outcome;" (.ref a_RENEWED)) (S_RELEASED : Sta Z h0 "com/example/earnest_lease/earnestlease/protocol/Reply$Outcome" "RELEASED" "Lcom/example/earnest_lease/earnestlease/protocol/Reply$Outcome;" (.ref a_RELEASED)) (S_NOT_HELD : Sta Z h0 "com/example/earnest_lease/earnestlease/protocol/Reply$Outcome" "NOT_HELD" "Lcom/example/earnest_lease/earnestlease/protocol/Reply$Outcome;" (.ref a_NOT_HELD)) (S_REFUSED : Sta Z h0 "com/example/earnest_lease/earnestlease/protocol/Reply$Outcome" "REFUSED" "Lcom/example/earnest_lease/earnestlease/protocol/Reply$Outcome;" (.ref a_REFUSED)) (S_NO_LEADER : Sta Z h0 "com/example/earnest_lease/earnestlease/protocol/Reply$Outcome" "NO_LEADER" "Lcom/example/earnest_lease/earnestlease/protocol/Reply$Outcome;" (.ref a_NO_LEADER)) (S_QUEUED : Sta Z h0 "com/example/earnest_lease/earnestlease/protocol/Reply$Outcome" "QUEUED" "Lcom/example/earnest_lease/earnestlease/protocol/Reply$Outcome;" (.ref a_QUEUED)) (S_TAKEN : Sta Z h0 "com/example/earnest_lease/earnestlease/protocol/Reply$Outcome" "TAKEN" "Lcom/example/earnest_lease/earnestlease/protocol/Reply$Outcome;" (.ref a_TAKEN)) (F_ordinal_GRANTED : Fld Z h0 a_GRANTED "java/lang/Enum" "ordinal" "I" (.int (0 : Int32))) (F_ordinal_HELD : Fld Z h0 a_HELD "java/lang/Enum" "ordinal" "I" (.int (1 : Int32))) (F_ordinal_RENEWED : Fld Z h0 a_RENEWED "java/lang/Enum" "ordinal" "I" (.int (2 : Int32))) (F_ordinal_RELEASED : Fld Z h0 a_RELEASED "java/lang/Enum" "ordinal" "I" (.int (3 : Int32))) (F_ordinal_NOT_HELD : Fld Z h0 a_NOT_HELD "java/lang/Enum" "ordinal" "I" (.int (4 : Int32))) (F_ordinal_REFUSED : Fld Z h0 a_REFUSED "java/lang/Enum" "ordinal" "I" (.int (5 : Int32))) (F_ordinal_NO_LEADER : Fld Z h0 a_NO_LEADER "java/lang/Enum" "ordinal" "I" (.int (6 : Int32))) (F_ordinal_QUEUED : Fld Z h0 a_QUEUED "java/lang/Enum" "ordinal" "I" (.int (7 : Int32))) (F_ordinal_TAKEN : Fld Z h0 a_TAKEN "java/lang/Enum" "ordinal" "I" (.int (8 : Int32))) (hEL : EW Z a0 consts_1) :
    MetFree l x (head1 (Jvm.Cond.code x code maxLocals ret :: ws) room_1) (fun a U => a = #[(.int p1)] ∧ Z.Warmed39 U.vm ∧ U.heap = h0 ∧ CHv Z consts_1 U.vm h0) (fun _ _ _ _ _ => True) (fun _ U o U' => ∃ v L, o = .returned v ∧ Q0 n0 v U'.heap L ∧ ReturnedEndW U o U' L room_1.cells room_1.slots) := by
  refine MetFree.of_bodySF (plainFor_of_name pn_0) hisR ?_
  intro p e s m args below meth c s₁ Bd hml0 hP hK
  obtain ⟨rfl, hZ, hh, hCH⟩ := hP
  have hx := Bd.exec
  have hby := Bd.bytes
  have hml : c.maxLocals = 6 := hml0
  have hown : s.vm.findClass "com/example/earnest_lease/earnestlease/protocol/ReplyOfPinLaw" = some m.cls := findClass_of_methodNamed Bd.named
  have hnm := (name_of_methodNamed Bd.named Bd.method).1
  have hlk : meth.locks = false := BodyLoose.notSynchronized Bd
  have X0 : Stand p l e room_1 (s.setVm s.vm) m #[(.int p1)] below meth c s₁ [] 0 0 := Stand.of_body Bd
  have e0 : s₁.heap = h0 := by rw [← hh, Bd.state]; rfl
  have N0 := Fr.nil n0
  have hS0 : s.Since s.vm 0 := (State.WarmedH.refl s).since 0
  have hk0 : 0 ≤ h0.size := Nat.zero_le _
  have hwS := own_strs hw
  refine own_startW (Q := Q0 n0) (ef_0 m p1) ?_
  show own_Go p e below _ s₁ (mkF m 0 #[.val (.int p1), .unset, .unset, .unset, .unset, .unset] [])
  refine own_by (fun t_ k_ => XS.iloadN X0.here hx rfl (hb hby at_0) rfl k_) ?_
  show own_Go p e below _ s₁ (mkF m 1 #[.val (.int p1), .unset, .unset, .unset, .unset, .unset] [(.int p1)])
  refine own_by (fun t_ k_ => X0.ldcInt hx hown (mvT hZ (hw _ (List.mem_of_getElem? (i := 0) rfl))) (g := (mkF m 1 #[.val (.int p1), .unset, .unset, .unset, .unset, .unset] [(.int p1)])) rfl (hb hby at_1) _ k_) ?_
  show own_Go p e below _ s₁ (mkF m 3 #[.val (.int p1), .unset, .unset, .unset, .unset, .unset] [(.int (2147483647 : Int32)), (.int p1)])
  refine own_by (fun t_ k_ => XS.iand X0.here hx rfl (hb hby at_3) rfl k_) ?_
  show own_Go p e below _ s₁ (mkF m 4 #[.val (.int p1), .unset, .unset, .unset, .unset, .unset] [(.int (p1 &&& (2147483647 : Int32)))])
  refine own_by (fun t_ k_ => XS.bipush X0.here hx rfl (hb hby at_4) k_) ?_
  show own_Go p e below _ s₁ (mkF m 6 #[.val (.int p1), .unset, .unset, .unset, .unset, .unset] [(.int (9 : Int32)), (.int (p1 &&& (2147483647 : Int32)))])
  refine own_by (fun t_ k_ => iremM X0 hx rfl (hb hby at_6) rfl (by decide) k_) ?_
  show own_Go p e below _ s₁ (mkF m 7 #[.val (.int p1), .unset, .unset, .unset, .unset, .unset] [(.int ((p1 &&& (2147483647 : Int32)) % (9 : Int32)))])
  refine own_by (fun t_ k_ => XS.istoreN X0.here hx rfl (hb hby at_7) rfl (l' := #[.val (.int p1), .val (.int ((p1 &&& (2147483647 : Int32)) % (9 : Int32))), .unset, .unset, .unset, .unset]) rfl k_) ?_
  show own_Go p e below _ s₁ (mkF m 8 #[.val (.int p1), .val (.int ((p1 &&& (2147483647 : Int32)) % (9 : Int32))), .unset, .unset, .unset, .unset] [])
  generalize h_kq : ((p1 &&& (2147483647 : Int32)) % (9 : Int32)) = kq
  rcases own_l9 (h_kq ▸ (own_k9 p1).1) (h_kq ▸ (own_k9 p1).2) with rfl | rfl | rfl | rfl | rfl | rfl | rfl | rfl | rfl
  · show own_Go p e below _ s₁ (mkF m 8 #[.val (.int p1), .val (.int (0 : Int32)), .unset, .unset, .unset, .unset] [])
    refine own_by (fun t_ k_ => XS.iloadN X0.here hx rfl (hb hby at_8) rfl k_) ?_
    show own_Go p e below _ s₁ (mkF m 9 #[.val (.int p1), .val (.int (0 : Int32)), .unset, .unset, .unset, .unset] [(.int (0 : Int32))])
    refine own_callS (W := 0) X0 hx hZ (y := (⟨"com/example/earnest_lease/earnestlease/protocol/ReplyOfPinLaw", "pick", "(I)Lcom/example/earnest_lease/earnestlease/protocol/Reply$Outcome;"⟩ : MethodName)) hown (hw _ (List.mem_of_getElem? (i := 1) rfl)) (hw _ (List.mem_of_getElem? (i := 2) rfl)) (hw _ (List.mem_of_getElem? (i := 3) rfl)) (hw _ (List.mem_of_getElem? (i := 4) rfl)) (by decide) (by rw [hml]; rfl) (argsL := [(.int (0 : Int32))]) pd_0 rfl (rm1 l Z a0 hw [] (0 : Int32) a_GRANTED a_GRANTED a_HELD a_RENEWED a_RELEASED a_NOT_HELD a_REFUSED a_NO_LEADER a_QUEUED a_TAKEN h0 n0 Z0 S_GRANTED S_HELD S_RENEWED S_RELEASED S_NOT_HELD S_REFUSED S_NO_LEADER S_QUEUED S_TAKEN (Or.inl ⟨rfl, rfl⟩)) (by decide) (by decide) (Nat.le_of_eq rfl) (by decide) (by decide) (rest := []) e0 rfl (hb hby at_9) ?_
    intro v1 T1 L1 X1 hQ1
    obtain ⟨rfl, N1q, e1⟩ := hQ1
    have N1 := Fr.app N0 N1q
    show own_Go p e below _ T1 (mkF m 12 #[.val (.int p1), .val (.int (0 : Int32)), .unset, .unset, .unset, .unset] [(.ref a_GRANTED)])
    refine own_by (fun t_ k_ => XS.astoreN X1.here hx rfl (hb hby at_12) rfl rfl (l' := #[.val (.int p1), .val (.int (0 : Int32)), .val (.ref a_GRANTED), .unset, .unset, .unset]) rfl k_) ?_
    show own_Go p e below _ T1 (mkF m 13 #[.val (.int p1), .val (.int (0 : Int32)), .val (.ref a_GRANTED), .unset, .unset, .unset] [])
    refine own_by (fun t_ k_ => XS.aloadN X1.here hx rfl (hb hby at_13) rfl rfl k_) ?_
    show own_Go p e below _ T1 (mkF m 14 #[.val (.int p1), .val (.int (0 : Int32)), .val (.ref a_GRANTED), .unset, .unset, .unset] [(.ref a_GRANTED)])
    refine own_callSH (W := 0) X1 hx hZ (y := (⟨"com/example/earnest_lease/earnestlease/protocol/Reply", "of", "(Lcom/example/earnest_lease/earnestlease/protocol/Reply$Outcome;)Lcom/example/earnest_lease/earnestlease/protocol/Reply;"⟩ : MethodName)) hown (hw _ (List.mem_of_getElem? (i := 8) rfl)) (hw _ (List.mem_of_getElem? (i := 9) rfl)) (hw _ (List.mem_of_getElem? (i := 10) rfl)) (hw _ (List.mem_of_getElem? (i := 11) rfl)) (by decide) (by rw [hml]; rfl) (argsL := [(.ref a_GRANTED)]) pd_1 rfl (rm2 l Z a0 hw [] a_GRANTED h0 n0 Z0 hEL) (by decide) (by decide) (Nat.le_of_eq rfl) (by decide) (by decide) (rest := []) e1 rfl (hb hby at_14) hS0 hk0 hEL hCH ?_
    intro v2 T2 L2 X2 hS2 hZ hown hQ2 H2
    obtain ⟨r2, b2, d2, rfl, N2q, K2, ⟨E2, Fo2, Ft2, Fr2⟩, Es2, W2, V2⟩ := hQ2
    have N2 := Fr.app N1 N2q
    have sz2 : n0 ≤ T2.heap.size := Nat.le_trans Z0 K2.1
    show own_Go p e below _ T2 (mkF m 17 #[.val (.int p1), .val (.int (0 : Int32)), .val (.ref a_GRANTED), .unset, .unset, .unset] [(.ref r2)])
    refine own_by (fun t_ k_ => XS.astoreN X2.here hx rfl (hb hby at_17) rfl rfl (l' := #[.val (.int p1), .val (.int (0 : Int32)), .val (.ref a_GRANTED), .val (.ref r2), .unset, .unset]) rfl k_) ?_
    show own_Go p e below _ T2 (mkF m 18 #[.val (.int p1), .val (.int (0 : Int32)), .val (.ref a_GRANTED), .val (.ref r2), .unset, .unset] [])
    refine own_by (fun t_ k_ => XS.aloadN X2.here hx rfl (hb hby at_18) rfl rfl k_) ?_
    show own_Go p e below _ T2 (mkF m 19 #[.val (.int p1), .val (.int (0 : Int32)), .val (.ref a_GRANTED), .val (.ref r2), .unset, .unset] [(.ref r2)])
    refine own_by (fun t_ k_ => XT.ifnonnullYes X2.here hx rfl (pc0 := 19) (pc' := 24) rfl (hb hby at_19) rfl (by decide) (by decide) k_) ?_
    show own_Go p e below _ T2 (mkF m 24 #[.val (.int p1), .val (.int (0 : Int32)), .val (.ref a_GRANTED), .val (.ref r2), .unset, .unset] [])
    refine own_by (fun t_ k_ => XS.aloadN X2.here hx rfl (hb hby at_24) rfl rfl k_) ?_
    show own_Go p e below _ T2 (mkF m 25 #[.val (.int p1), .val (.int (0 : Int32)), .val (.ref a_GRANTED), .val (.ref r2), .unset, .unset] [(.ref r2)])
    refine own_callV (W := 0) X2 hx hZ (y := (⟨"com/example/earnest_lease/earnestlease/protocol/Reply", "outcome", "()Lcom/example/earnest_lease/earnestlease/protocol/Reply$Outcome;"⟩ : MethodName)) (z := (⟨"com/example/earnest_lease/earnestlease/protocol/Reply", "outcome", "()Lcom/example/earnest_lease/earnestlease/protocol/Reply$Outcome;"⟩ : MethodName)) hown (hw _ (List.mem_of_getElem? (i := 39) rfl)) (hw _ (List.mem_of_getElem? (i := 40) rfl)) (notFace_of_selects (args := #[]) (mvT hZ (hw _ (List.mem_of_getElem? (i := 42) rfl)))) (hw _ (List.mem_of_getElem? (i := 42) rfl)) (hw _ (List.mem_of_getElem? (i := 41) rfl)) (hw _ (List.mem_of_getElem? (i := 10) rfl)) (hw _ (List.mem_of_getElem? (i := 43) rfl)) (by decide) (by rw [hml]; rfl) (argsL := []) pd_4 rfl (a := r2) rfl E2 (rm6 l Z a0 hw [] r2 a_GRANTED T2.heap n0 sz2 Fo2) (by decide) (by decide) (Nat.le_of_eq rfl) (by decide) (by decide) (rest := []) rfl (hb hby at_25) ?_
    intro v3 T3 L3 X3 hQ3
    obtain ⟨rfl, N3q, e3⟩ := hQ3
    have N3 := Fr.app N2 N3q
    show own_Go p e below _ T3 (mkF m 28 #[.val (.int p1), .val (.int (0 : Int32)), .val (.ref a_GRANTED), .val (.ref r2), .unset, .unset] [(.ref a_GRANTED)])
    refine own_by (fun t_ k_ => XS.aloadN X3.here hx rfl (hb hby at_28) rfl rfl k_) ?_
    show own_Go p e below _ T3 (mkF m 29 #[.val (.int p1), .val (.int (0 : Int32)), .val (.ref a_GRANTED), .val (.ref r2), .unset, .unset] [(.ref a_GRANTED), (.ref a_GRANTED)])
    refine own_by (fun t_ k_ => Jvm.RoadKit.acmp (g := (mkF m 29 #[.val (.int p1), .val (.int (0 : Int32)), .val (.ref a_GRANTED), .val (.ref r2), .unset, .unset] [(.ref a_GRANTED), (.ref a_GRANTED)])) X3 hx rfl rfl rfl (pc0 := 29) (pc' := 34) (same := true) rfl (hb hby at_29) rfl (decide_eq_true rfl) (by decide) (by decide) k_) ?_
    show own_Go p e below _ T3 (mkF m 34 #[.val (.int p1), .val (.int (0 : Int32)), .val (.ref a_GRANTED), .val (.ref r2), .unset, .unset] [])
    refine own_by (fun t_ k_ => XS.aloadN X3.here hx rfl (hb hby at_34) rfl rfl k_) ?_
    show own_Go p e below _ T3 (mkF m 35 #[.val (.int p1), .val (.int (0 : Int32)), .val (.ref a_GRANTED), .val (.ref r2), .unset, .unset] [(.ref r2)])
    refine own_callV (W := 0) X3 hx hZ (y := (⟨"com/example/earnest_lease/earnestlease/protocol/Reply", "token", "()J"⟩ : MethodName)) (z := (⟨"com/example/earnest_lease/earnestlease/protocol/Reply", "token", "()J"⟩ : MethodName)) hown (hw _ (List.mem_of_getElem? (i := 44) rfl)) (hw _ (List.mem_of_getElem? (i := 45) rfl)) (notFace_of_selects (args := #[]) (mvT hZ (hw _ (List.mem_of_getElem? (i := 47) rfl)))) (hw _ (List.mem_of_getElem? (i := 47) rfl)) (hw _ (List.mem_of_getElem? (i := 46) rfl)) (hw _ (List.mem_of_getElem? (i := 10) rfl)) (hw _ (List.mem_of_getElem? (i := 48) rfl)) (by decide) (by rw [hml]; rfl) (argsL := []) pd_5 rfl (a := r2) e3 E2 (rm7 l Z a0 hw [] r2 T2.heap n0 sz2 Ft2) (by decide) (by decide) (Nat.le_of_eq rfl) (by decide) (by decide) (rest := []) rfl (hb hby at_35) ?_
    intro v4 T4 L4 X4 hQ4
    obtain ⟨rfl, N4q, e4⟩ := hQ4
    have N4 := Fr.app N3 N4q
    show own_Go p e below _ T4 (mkF m 38 #[.val (.int p1), .val (.int (0 : Int32)), .val (.ref a_GRANTED), .val (.ref r2), .unset, .unset] [(.long (0 : Int64))])
    refine own_by (fun t_ k_ => XT.lconst X4.here hx rfl (hb hby at_38) k_) ?_
    show own_Go p e below _ T4 (mkF m 39 #[.val (.int p1), .val (.int (0 : Int32)), .val (.ref a_GRANTED), .val (.ref r2), .unset, .unset] [(.long (0 : Int64)), (.long (0 : Int64))])
    refine own_by (fun t_ k_ => XT.lcmp X4.here hx rfl (hb hby at_39) rfl k_) ?_
    show own_Go p e below _ T4 (mkF m 40 #[.val (.int p1), .val (.int (0 : Int32)), .val (.ref a_GRANTED), .val (.ref r2), .unset, .unset] [(.int (XT.cmpL (0 : Int64) (0 : Int64)))])
    refine own_if X4 hx 45 (hb hby at_40) (by decide) (by decide) (fun _ => ?_) (fun hc => absurd (show (XT.cmpL (0 : Int64) (0 : Int64)) = (0 : Int32) from by decide) (by first | exact hc | exact not_not_intro hc))
    show own_Go p e below _ T4 (mkF m 45 #[.val (.int p1), .val (.int (0 : Int32)), .val (.ref a_GRANTED), .val (.ref r2), .unset, .unset] [])
    refine own_by (fun t_ k_ => XS.aloadN X4.here hx rfl (hb hby at_45) rfl rfl k_) ?_
    show own_Go p e below _ T4 (mkF m 46 #[.val (.int p1), .val (.int (0 : Int32)), .val (.ref a_GRANTED), .val (.ref r2), .unset, .unset] [(.ref r2)])
    refine own_callV (W := 0) X4 hx hZ (y := (⟨"com/example/earnest_lease/earnestlease/protocol/Reply", "reason", "()Ljava/lang/String;"⟩ : MethodName)) (z := (⟨"com/example/earnest_lease/earnestlease/protocol/Reply", "reason", "()Ljava/lang/String;"⟩ : MethodName)) hown (hw _ (List.mem_of_getElem? (i := 49) rfl)) (hw _ (List.mem_of_getElem? (i := 50) rfl)) (notFace_of_selects (args := #[]) (mvT hZ (hw _ (List.mem_of_getElem? (i := 52) rfl)))) (hw _ (List.mem_of_getElem? (i := 52) rfl)) (hw _ (List.mem_of_getElem? (i := 51) rfl)) (hw _ (List.mem_of_getElem? (i := 10) rfl)) (hw _ (List.mem_of_getElem? (i := 53) rfl)) (by decide) (by rw [hml]; rfl) (argsL := []) pd_6 rfl (a := r2) e4 E2 (rm8 l Z a0 hw [] r2 b2 T2.heap n0 sz2 Fr2) (by decide) (by decide) (Nat.le_of_eq rfl) (by decide) (by decide) (rest := []) rfl (hb hby at_46) ?_
    intro v5 T5 L5 X5 hQ5
    obtain ⟨rfl, N5q, e5⟩ := hQ5
    have N5 := Fr.app N4 N5q
    show own_Go p e below _ T5 (mkF m 49 #[.val (.int p1), .val (.int (0 : Int32)), .val (.ref a_GRANTED), .val (.ref r2), .unset, .unset] [(.ref b2)])
    refine own_by (fun t_ k_ => XS.astore X5.here hx rfl (hb hby at_49) rfl rfl (l' := #[.val (.int p1), .val (.int (0 : Int32)), .val (.ref a_GRANTED), .val (.ref r2), .val (.ref b2), .unset]) rfl k_) ?_
    show own_Go p e below _ T5 (mkF m 51 #[.val (.int p1), .val (.int (0 : Int32)), .val (.ref a_GRANTED), .val (.ref r2), .val (.ref b2), .unset] [])
    refine own_by (fun t_ k_ => XS.aload X5.here hx rfl (hb hby at_51) rfl rfl k_) ?_
    show own_Go p e below _ T5 (mkF m 53 #[.val (.int p1), .val (.int (0 : Int32)), .val (.ref a_GRANTED), .val (.ref r2), .val (.ref b2), .unset] [(.ref b2)])
    refine own_by (fun t_ k_ => XS.ifnullNo X5.here hx rfl (hb hby at_53) rfl k_) ?_
    show own_Go p e below _ T5 (mkF m 56 #[.val (.int p1), .val (.int (0 : Int32)), .val (.ref a_GRANTED), .val (.ref r2), .val (.ref b2), .unset] [])
    refine own_by (fun t_ k_ => XS.aload X5.here hx rfl (hb hby at_56) rfl rfl k_) ?_
    show own_Go p e below _ T5 (mkF m 58 #[.val (.int p1), .val (.int (0 : Int32)), .val (.ref a_GRANTED), .val (.ref r2), .val (.ref b2), .unset] [(.ref b2)])
    refine own_callV (W := 0) X5 hx hZ (y := (⟨"java/lang/String", "isEmpty", "()Z"⟩ : MethodName)) (z := (⟨"java/lang/String", "isEmpty", "()Z"⟩ : MethodName)) hown (hw _ (List.mem_of_getElem? (i := 54) rfl)) (hw _ (List.mem_of_getElem? (i := 55) rfl)) (notFace_of_selects (args := #[]) (mvT hZ (hw _ (List.mem_of_getElem? (i := 57) rfl)))) (hw _ (List.mem_of_getElem? (i := 57) rfl)) (hw _ (List.mem_of_getElem? (i := 56) rfl)) (hw _ (List.mem_of_getElem? (i := 15) rfl)) (hw _ (List.mem_of_getElem? (i := 58) rfl)) (by decide) (by rw [hml]; rfl) (argsL := []) pd_7 rfl (a := b2) e5 Es2 (rm9 l Z a0 hw [] b2 d2 T2.heap n0 sz2 W2 V2) (by decide) (by decide) (Nat.le_of_eq rfl) (by decide) (by decide) (rest := []) rfl (hb hby at_58) ?_
    intro v6 T6 L6 X6 hQ6
    obtain ⟨rfl, N6q, e6⟩ := hQ6
    have N6 := Fr.app N5 N6q
    show own_Go p e below _ T6 (mkF m 61 #[.val (.int p1), .val (.int (0 : Int32)), .val (.ref a_GRANTED), .val (.ref r2), .val (.ref b2), .unset] [(.int (1 : Int32))])
    refine own_if X6 hx 66 (hb hby at_61) (by decide) (by decide) (fun _ => ?_) (fun hc => absurd (show ¬ (1 : Int32) = (0 : Int32) from by decide) (by first | exact hc | exact not_not_intro hc))
    show own_Go p e below _ T6 (mkF m 66 #[.val (.int p1), .val (.int (0 : Int32)), .val (.ref a_GRANTED), .val (.ref r2), .val (.ref b2), .unset] [])
    refine own_by (fun t_ k_ => XS.iloadN X6.here hx rfl (hb hby at_66) rfl k_) ?_
    show own_Go p e below _ T6 (mkF m 67 #[.val (.int p1), .val (.int (0 : Int32)), .val (.ref a_GRANTED), .val (.ref r2), .val (.ref b2), .unset] [(.int (0 : Int32))])
    refine own_by (fun t_ k_ => XS.bipush X6.here hx rfl (hb hby at_67) k_) ?_
    show own_Go p e below _ T6 (mkF m 69 #[.val (.int p1), .val (.int (0 : Int32)), .val (.ref a_GRANTED), .val (.ref r2), .val (.ref b2), .unset] [(.int (7 : Int32)), (.int (0 : Int32))])
    refine own_icmp X6 hx 76 (hb hby at_69) (by decide) (by decide) (fun _ => ?_) (fun hc => absurd (show ¬ (0 : Int32) = (7 : Int32) from by decide) (by first | exact hc | exact not_not_intro hc))
    show own_Go p e below _ T6 (mkF m 76 #[.val (.int p1), .val (.int (0 : Int32)), .val (.ref a_GRANTED), .val (.ref r2), .val (.ref b2), .unset] [])
    refine own_by (fun t_ k_ => XS.iconst X6.here hx rfl (hb hby at_76) k_) ?_
    show own_Go p e below _ T6 (mkF m 77 #[.val (.int p1), .val (.int (0 : Int32)), .val (.ref a_GRANTED), .val (.ref r2), .val (.ref b2), .unset] [(.int (0 : Int32))])
    refine own_by (fun t_ k_ => XS.istore X6.here hx rfl (hb hby at_77) rfl (l' := #[.val (.int p1), .val (.int (0 : Int32)), .val (.ref a_GRANTED), .val (.ref r2), .val (.ref b2), .val (.int (0 : Int32))]) rfl k_) ?_
    show own_Go p e below _ T6 (mkF m 79 #[.val (.int p1), .val (.int (0 : Int32)), .val (.ref a_GRANTED), .val (.ref r2), .val (.ref b2), .val (.int (0 : Int32))] [])
    refine own_by (fun t_ k_ => XS.aloadN X6.here hx rfl (hb hby at_79) rfl rfl k_) ?_
    show own_Go p e below _ T6 (mkF m 80 #[.val (.int p1), .val (.int (0 : Int32)), .val (.ref a_GRANTED), .val (.ref r2), .val (.ref b2), .val (.int (0 : Int32))] [(.ref r2)])
    have S_QUEUED_7 : Sta Z T2.heap "com/example/earnest_lease/earnestlease/protocol/Reply$Outcome" "QUEUED" "Lcom/example/earnest_lease/earnestlease/protocol/Reply$Outcome;" (.ref a_QUEUED) := (own_Sta_keep S_QUEUED K2 ns0)
    refine own_callV (W := 0) X6 hx hZ (y := (⟨"com/example/earnest_lease/earnestlease/protocol/Reply", "interim", "()Z"⟩ : MethodName)) (z := (⟨"com/example/earnest_lease/earnestlease/protocol/Reply", "interim", "()Z"⟩ : MethodName)) hown (hw _ (List.mem_of_getElem? (i := 60) rfl)) (hw _ (List.mem_of_getElem? (i := 61) rfl)) (notFace_of_selects (args := #[]) (mvT hZ (hw _ (List.mem_of_getElem? (i := 63) rfl)))) (hw _ (List.mem_of_getElem? (i := 63) rfl)) (hw _ (List.mem_of_getElem? (i := 62) rfl)) (hw _ (List.mem_of_getElem? (i := 10) rfl)) (hw _ (List.mem_of_getElem? (i := 64) rfl)) (by decide) (by rw [hml]; rfl) (argsL := []) pd_7 rfl (a := r2) e6 E2 (rm10 l Z a0 hw [] r2 a_GRANTED a_QUEUED T2.heap n0 sz2 Fo2 S_QUEUED_7) (by decide) (by decide) (Nat.le_of_eq rfl) (by decide) (by decide) (rest := []) rfl (hb hby at_80) ?_
    intro v8 T8 L8 X8 hQ8
    obtain ⟨rfl, N8q, e8⟩ := hQ8
    have N8 := Fr.app N6 N8q
    show own_Go p e below _ T8 (mkF m 83 #[.val (.int p1), .val (.int (0 : Int32)), .val (.ref a_GRANTED), .val (.ref r2), .val (.ref b2), .val (.int (0 : Int32))] [(.int (own_iq a_GRANTED a_QUEUED))])
    refine own_by (fun t_ k_ => XS.iload X8.here hx rfl (hb hby at_83) rfl k_) ?_
    show own_Go p e below _ T8 (mkF m 85 #[.val (.int p1), .val (.int (0 : Int32)), .val (.ref a_GRANTED), .val (.ref r2), .val (.ref b2), .val (.int (0 : Int32))] [(.int (0 : Int32)), (.int (own_iq a_GRANTED a_QUEUED))])
    refine own_icmp X8 hx 92 (hb hby at_85) (by decide) (by decide) (fun hc => absurd (show (own_iq a_GRANTED a_QUEUED) = (0 : Int32) from by simp [own_iq, Fld.ne F_ordinal_GRANTED F_ordinal_QUEUED (by decide)]) (by first | exact hc | exact not_not_intro hc)) (fun _ => ?_)
    show own_Go p e below _ T8 (mkF m 88 #[.val (.int p1), .val (.int (0 : Int32)), .val (.ref a_GRANTED), .val (.ref r2), .val (.ref b2), .val (.int (0 : Int32))] [])
    refine own_by (fun t_ k_ => XS.iconst X8.here hx rfl (hb hby at_88) k_) ?_
    show own_Go p e below _ T8 (mkF m 89 #[.val (.int p1), .val (.int (0 : Int32)), .val (.ref a_GRANTED), .val (.ref r2), .val (.ref b2), .val (.int (0 : Int32))] [(.int (1 : Int32))])
    refine own_by (fun t_ k_ => XS.goto X8.here hx rfl (pc0 := 89) (pc' := 93) rfl (hb hby at_89) (by decide) (by decide) k_) ?_
    show own_Go p e below _ T8 (mkF m 93 #[.val (.int p1), .val (.int (0 : Int32)), .val (.ref a_GRANTED), .val (.ref r2), .val (.ref b2), .val (.int (0 : Int32))] [(.int (1 : Int32))])
    refine own_retZw X8 hx hS2 (Nat.le_refl _) hlk Bd.returns (by decide) (hb hby at_93) e8 (by decide) (by decide) ?_
    exact ⟨rfl, N8⟩
  · show own_Go p e below _ s₁ (mkF m 8 #[.val (.int p1), .val (.int (1 : Int32)), .unset, .unset, .unset, .unset] [])
    refine own_by (fun t_ k_ => XS.iloadN X0.here hx rfl (hb hby at_8) rfl k_) ?_
    show own_Go p e below _ s₁ (mkF m 9 #[.val (.int p1), .val (.int (1 : Int32)), .unset, .unset, .unset, .unset] [(.int (1 : Int32))])
    refine own_callS (W := 0) X0 hx hZ (y := (⟨"com/example/earnest_lease/earnestlease/protocol/ReplyOfPinLaw", "pick", "(I)Lcom/example/earnest_lease/earnestlease/protocol/Reply$Outcome;"⟩ : MethodName)) hown (hw _ (List.mem_of_getElem? (i := 1) rfl)) (hw _ (List.mem_of_getElem? (i := 2) rfl)) (hw _ (List.mem_of_getElem? (i := 3) rfl)) (hw _ (List.mem_of_getElem? (i := 4) rfl)) (by decide) (by rw [hml]; rfl) (argsL := [(.int (1 : Int32))]) pd_0 rfl (rm1 l Z a0 hw [] (1 : Int32) a_HELD a_GRANTED a_HELD a_RENEWED a_RELEASED a_NOT_HELD a_REFUSED a_NO_LEADER a_QUEUED a_TAKEN h0 n0 Z0 S_GRANTED S_HELD S_RENEWED S_RELEASED S_NOT_HELD S_REFUSED S_NO_LEADER S_QUEUED S_TAKEN (Or.inr (Or.inl ⟨rfl, rfl⟩))) (by decide) (by decide) (Nat.le_of_eq rfl) (by decide) (by decide) (rest := []) e0 rfl (hb hby at_9) ?_
    intro v9 T9 L9 X9 hQ9
    obtain ⟨rfl, N9q, e9⟩ := hQ9
    have N9 := Fr.app N0 N9q
    show own_Go p e below _ T9 (mkF m 12 #[.val (.int p1), .val (.int (1 : Int32)), .unset, .unset, .unset, .unset] [(.ref a_HELD)])
    refine own_by (fun t_ k_ => XS.astoreN X9.here hx rfl (hb hby at_12) rfl rfl (l' := #[.val (.int p1), .val (.int (1 : Int32)), .val (.ref a_HELD), .unset, .unset, .unset]) rfl k_) ?_
    show own_Go p e below _ T9 (mkF m 13 #[.val (.int p1), .val (.int (1 : Int32)), .val (.ref a_HELD), .unset, .unset, .unset] [])
    refine own_by (fun t_ k_ => XS.aloadN X9.here hx rfl (hb hby at_13) rfl rfl k_) ?_
    show own_Go p e below _ T9 (mkF m 14 #[.val (.int p1), .val (.int (1 : Int32)), .val (.ref a_HELD), .unset, .unset, .unset] [(.ref a_HELD)])
    refine own_callSH (W := 0) X9 hx hZ (y := (⟨"com/example/earnest_lease/earnestlease/protocol/Reply", "of", "(Lcom/example/earnest_lease/earnestlease/protocol/Reply$Outcome;)Lcom/example/earnest_lease/earnestlease/protocol/Reply;"⟩ : MethodName)) hown (hw _ (List.mem_of_getElem? (i := 8) rfl)) (hw _ (List.mem_of_getElem? (i := 9) rfl)) (hw _ (List.mem_of_getElem? (i := 10) rfl)) (hw _ (List.mem_of_getElem? (i := 11) rfl)) (by decide) (by rw [hml]; rfl) (argsL := [(.ref a_HELD)]) pd_1 rfl (rm2 l Z a0 hw [] a_HELD h0 n0 Z0 hEL) (by decide) (by decide) (Nat.le_of_eq rfl) (by decide) (by decide) (rest := []) e9 rfl (hb hby at_14) hS0 hk0 hEL hCH ?_
    intro v10 T10 L10 X10 hS10 hZ hown hQ10 H10
    obtain ⟨r10, b10, d10, rfl, N10q, K10, ⟨E10, Fo10, Ft10, Fr10⟩, Es10, W10, V10⟩ := hQ10
    have N10 := Fr.app N9 N10q
    have sz10 : n0 ≤ T10.heap.size := Nat.le_trans Z0 K10.1
    show own_Go p e below _ T10 (mkF m 17 #[.val (.int p1), .val (.int (1 : Int32)), .val (.ref a_HELD), .unset, .unset, .unset] [(.ref r10)])
    refine own_by (fun t_ k_ => XS.astoreN X10.here hx rfl (hb hby at_17) rfl rfl (l' := #[.val (.int p1), .val (.int (1 : Int32)), .val (.ref a_HELD), .val (.ref r10), .unset, .unset]) rfl k_) ?_
    show own_Go p e below _ T10 (mkF m 18 #[.val (.int p1), .val (.int (1 : Int32)), .val (.ref a_HELD), .val (.ref r10), .unset, .unset] [])
    refine own_by (fun t_ k_ => XS.aloadN X10.here hx rfl (hb hby at_18) rfl rfl k_) ?_
    show own_Go p e below _ T10 (mkF m 19 #[.val (.int p1), .val (.int (1 : Int32)), .val (.ref a_HELD), .val (.ref r10), .unset, .unset] [(.ref r10)])
    refine own_by (fun t_ k_ => XT.ifnonnullYes X10.here hx rfl (pc0 := 19) (pc' := 24) rfl (hb hby at_19) rfl (by decide) (by decide) k_) ?_
    show own_Go p e below _ T10 (mkF m 24 #[.val (.int p1), .val (.int (1 : Int32)), .val (.ref a_HELD), .val (.ref r10), .unset, .unset] [])
    refine own_by (fun t_ k_ => XS.aloadN X10.here hx rfl (hb hby at_24) rfl rfl k_) ?_
    show own_Go p e below _ T10 (mkF m 25 #[.val (.int p1), .val (.int (1 : Int32)), .val (.ref a_HELD), .val (.ref r10), .unset, .unset] [(.ref r10)])
    refine own_callV (W := 0) X10 hx hZ (y := (⟨"com/example/earnest_lease/earnestlease/protocol/Reply", "outcome", "()Lcom/example/earnest_lease/earnestlease/protocol/Reply$Outcome;"⟩ : MethodName)) (z := (⟨"com/example/earnest_lease/earnestlease/protocol/Reply", "outcome", "()Lcom/example/earnest_lease/earnestlease/protocol/Reply$Outcome;"⟩ : MethodName)) hown (hw _ (List.mem_of_getElem? (i := 39) rfl)) (hw _ (List.mem_of_getElem? (i := 40) rfl)) (notFace_of_selects (args := #[]) (mvT hZ (hw _ (List.mem_of_getElem? (i := 42) rfl)))) (hw _ (List.mem_of_getElem? (i := 42) rfl)) (hw _ (List.mem_of_getElem? (i := 41) rfl)) (hw _ (List.mem_of_getElem? (i := 10) rfl)) (hw _ (List.mem_of_getElem? (i := 43) rfl)) (by decide) (by rw [hml]; rfl) (argsL := []) pd_4 rfl (a := r10) rfl E10 (rm6 l Z a0 hw [] r10 a_HELD T10.heap n0 sz10 Fo10) (by decide) (by decide) (Nat.le_of_eq rfl) (by decide) (by decide) (rest := []) rfl (hb hby at_25) ?_
    intro v11 T11 L11 X11 hQ11
    obtain ⟨rfl, N11q, e11⟩ := hQ11
    have N11 := Fr.app N10 N11q
    show own_Go p e below _ T11 (mkF m 28 #[.val (.int p1), .val (.int (1 : Int32)), .val (.ref a_HELD), .val (.ref r10), .unset, .unset] [(.ref a_HELD)])
    refine own_by (fun t_ k_ => XS.aloadN X11.here hx rfl (hb hby at_28) rfl rfl k_) ?_
    show own_Go p e below _ T11 (mkF m 29 #[.val (.int p1), .val (.int (1 : Int32)), .val (.ref a_HELD), .val (.ref r10), .unset, .unset] [(.ref a_HELD), (.ref a_HELD)])
    refine own_by (fun t_ k_ => Jvm.RoadKit.acmp (g := (mkF m 29 #[.val (.int p1), .val (.int (1 : Int32)), .val (.ref a_HELD), .val (.ref r10), .unset, .unset] [(.ref a_HELD), (.ref a_HELD)])) X11 hx rfl rfl rfl (pc0 := 29) (pc' := 34) (same := true) rfl (hb hby at_29) rfl (decide_eq_true rfl) (by decide) (by decide) k_) ?_
    show own_Go p e below _ T11 (mkF m 34 #[.val (.int p1), .val (.int (1 : Int32)), .val (.ref a_HELD), .val (.ref r10), .unset, .unset] [])
    refine own_by (fun t_ k_ => XS.aloadN X11.here hx rfl (hb hby at_34) rfl rfl k_) ?_
    show own_Go p e below _ T11 (mkF m 35 #[.val (.int p1), .val (.int (1 : Int32)), .val (.ref a_HELD), .val (.ref r10), .unset, .unset] [(.ref r10)])
    refine own_callV (W := 0) X11 hx hZ (y := (⟨"com/example/earnest_lease/earnestlease/protocol/Reply", "token", "()J"⟩ : MethodName)) (z := (⟨"com/example/earnest_lease/earnestlease/protocol/Reply", "token", "()J"⟩ : MethodName)) hown (hw _ (List.mem_of_getElem? (i := 44) rfl)) (hw _ (List.mem_of_getElem? (i := 45) rfl)) (notFace_of_selects (args := #[]) (mvT hZ (hw _ (List.mem_of_getElem? (i := 47) rfl)))) (hw _ (List.mem_of_getElem? (i := 47) rfl)) (hw _ (List.mem_of_getElem? (i := 46) rfl)) (hw _ (List.mem_of_getElem? (i := 10) rfl)) (hw _ (List.mem_of_getElem? (i := 48) rfl)) (by decide) (by rw [hml]; rfl) (argsL := []) pd_5 rfl (a := r10) e11 E10 (rm7 l Z a0 hw [] r10 T10.heap n0 sz10 Ft10) (by decide) (by decide) (Nat.le_of_eq rfl) (by decide) (by decide) (rest := []) rfl (hb hby at_35) ?_
    intro v12 T12 L12 X12 hQ12
    obtain ⟨rfl, N12q, e12⟩ := hQ12
    have N12 := Fr.app N11 N12q
    show own_Go p e below _ T12 (mkF m 38 #[.val (.int p1), .val (.int (1 : Int32)), .val (.ref a_HELD), .val (.ref r10), .unset, .unset] [(.long (0 : Int64))])
    refine own_by (fun t_ k_ => XT.lconst X12.here hx rfl (hb hby at_38) k_) ?_
    show own_Go p e below _ T12 (mkF m 39 #[.val (.int p1), .val (.int (1 : Int32)), .val (.ref a_HELD), .val (.ref r10), .unset, .unset] [(.long (0 : Int64)), (.long (0 : Int64))])
    refine own_by (fun t_ k_ => XT.lcmp X12.here hx rfl (hb hby at_39) rfl k_) ?_
    show own_Go p e below _ T12 (mkF m 40 #[.val (.int p1), .val (.int (1 : Int32)), .val (.ref a_HELD), .val (.ref r10), .unset, .unset] [(.int (XT.cmpL (0 : Int64) (0 : Int64)))])
    refine own_if X12 hx 45 (hb hby at_40) (by decide) (by decide) (fun _ => ?_) (fun hc => absurd (show (XT.cmpL (0 : Int64) (0 : Int64)) = (0 : Int32) from by decide) (by first | exact hc | exact not_not_intro hc))
    show own_Go p e below _ T12 (mkF m 45 #[.val (.int p1), .val (.int (1 : Int32)), .val (.ref a_HELD), .val (.ref r10), .unset, .unset] [])
    refine own_by (fun t_ k_ => XS.aloadN X12.here hx rfl (hb hby at_45) rfl rfl k_) ?_
    show own_Go p e below _ T12 (mkF m 46 #[.val (.int p1), .val (.int (1 : Int32)), .val (.ref a_HELD), .val (.ref r10), .unset, .unset] [(.ref r10)])
    refine own_callV (W := 0) X12 hx hZ (y := (⟨"com/example/earnest_lease/earnestlease/protocol/Reply", "reason", "()Ljava/lang/String;"⟩ : MethodName)) (z := (⟨"com/example/earnest_lease/earnestlease/protocol/Reply", "reason", "()Ljava/lang/String;"⟩ : MethodName)) hown (hw _ (List.mem_of_getElem? (i := 49) rfl)) (hw _ (List.mem_of_getElem? (i := 50) rfl)) (notFace_of_selects (args := #[]) (mvT hZ (hw _ (List.mem_of_getElem? (i := 52) rfl)))) (hw _ (List.mem_of_getElem? (i := 52) rfl)) (hw _ (List.mem_of_getElem? (i := 51) rfl)) (hw _ (List.mem_of_getElem? (i := 10) rfl)) (hw _ (List.mem_of_getElem? (i := 53) rfl)) (by decide) (by rw [hml]; rfl) (argsL := []) pd_6 rfl (a := r10) e12 E10 (rm8 l Z a0 hw [] r10 b10 T10.heap n0 sz10 Fr10) (by decide) (by decide) (Nat.le_of_eq rfl) (by decide) (by decide) (rest := []) rfl (hb hby at_46) ?_
    intro v13 T13 L13 X13 hQ13
    obtain ⟨rfl, N13q, e13⟩ := hQ13
    have N13 := Fr.app N12 N13q
    show own_Go p e below _ T13 (mkF m 49 #[.val (.int p1), .val (.int (1 : Int32)), .val (.ref a_HELD), .val (.ref r10), .unset, .unset] [(.ref b10)])
    refine own_by (fun t_ k_ => XS.astore X13.here hx rfl (hb hby at_49) rfl rfl (l' := #[.val (.int p1), .val (.int (1 : Int32)), .val (.ref a_HELD), .val (.ref r10), .val (.ref b10), .unset]) rfl k_) ?_
    show own_Go p e below _ T13 (mkF m 51 #[.val (.int p1), .val (.int (1 : Int32)), .val (.ref a_HELD), .val (.ref r10), .val (.ref b10), .unset] [])
    refine own_by (fun t_ k_ => XS.aload X13.here hx rfl (hb hby at_51) rfl rfl k_) ?_
    show own_Go p e below _ T13 (mkF m 53 #[.val (.int p1), .val (.int (1 : Int32)), .val (.ref a_HELD), .val (.ref r10), .val (.ref b10), .unset] [(.ref b10)])
    refine own_by (fun t_ k_ => XS.ifnullNo X13.here hx rfl (hb hby at_53) rfl k_) ?_
    show own_Go p e below _ T13 (mkF m 56 #[.val (.int p1), .val (.int (1 : Int32)), .val (.ref a_HELD), .val (.ref r10), .val (.ref b10), .unset] [])
    refine own_by (fun t_ k_ => XS.aload X13.here hx rfl (hb hby at_56) rfl rfl k_) ?_
    show own_Go p e below _ T13 (mkF m 58 #[.val (.int p1), .val (.int (1 : Int32)), .val (.ref a_HELD), .val (.ref r10), .val (.ref b10), .unset] [(.ref b10)])
    refine own_callV (W := 0) X13 hx hZ (y := (⟨"java/lang/String", "isEmpty", "()Z"⟩ : MethodName)) (z := (⟨"java/lang/String", "isEmpty", "()Z"⟩ : MethodName)) hown (hw _ (List.mem_of_getElem? (i := 54) rfl)) (hw _ (List.mem_of_getElem? (i := 55) rfl)) (notFace_of_selects (args := #[]) (mvT hZ (hw _ (List.mem_of_getElem? (i := 57) rfl)))) (hw _ (List.mem_of_getElem? (i := 57) rfl)) (hw _ (List.mem_of_getElem? (i := 56) rfl)) (hw _ (List.mem_of_getElem? (i := 15) rfl)) (hw _ (List.mem_of_getElem? (i := 58) rfl)) (by decide) (by rw [hml]; rfl) (argsL := []) pd_7 rfl (a := b10) e13 Es10 (rm9 l Z a0 hw [] b10 d10 T10.heap n0 sz10 W10 V10) (by decide) (by decide) (Nat.le_of_eq rfl) (by decide) (by decide) (rest := []) rfl (hb hby at_58) ?_
    intro v14 T14 L14 X14 hQ14
    obtain ⟨rfl, N14q, e14⟩ := hQ14
    have N14 := Fr.app N13 N14q
    show own_Go p e below _ T14 (mkF m 61 #[.val (.int p1), .val (.int (1 : Int32)), .val (.ref a_HELD), .val (.ref r10), .val (.ref b10), .unset] [(.int (1 : Int32))])
    refine own_if X14 hx 66 (hb hby at_61) (by decide) (by decide) (fun _ => ?_) (fun hc => absurd (show ¬ (1 : Int32) = (0 : Int32) from by decide) (by first | exact hc | exact not_not_intro hc))
    show own_Go p e below _ T14 (mkF m 66 #[.val (.int p1), .val (.int (1 : Int32)), .val (.ref a_HELD), .val (.ref r10), .val (.ref b10), .unset] [])
    refine own_by (fun t_ k_ => XS.iloadN X14.here hx rfl (hb hby at_66) rfl k_) ?_
    show own_Go p e below _ T14 (mkF m 67 #[.val (.int p1), .val (.int (1 : Int32)), .val (.ref a_HELD), .val (.ref r10), .val (.ref b10), .unset] [(.int (1 : Int32))])
    refine own_by (fun t_ k_ => XS.bipush X14.here hx rfl (hb hby at_67) k_) ?_
    show own_Go p e below _ T14 (mkF m 69 #[.val (.int p1), .val (.int (1 : Int32)), .val (.ref a_HELD), .val (.ref r10), .val (.ref b10), .unset] [(.int (7 : Int32)), (.int (1 : Int32))])
    refine own_icmp X14 hx 76 (hb hby at_69) (by decide) (by decide) (fun _ => ?_) (fun hc => absurd (show ¬ (1 : Int32) = (7 : Int32) from by decide) (by first | exact hc | exact not_not_intro hc))
    show own_Go p e below _ T14 (mkF m 76 #[.val (.int p1), .val (.int (1 : Int32)), .val (.ref a_HELD), .val (.ref r10), .val (.ref b10), .unset] [])
    refine own_by (fun t_ k_ => XS.iconst X14.here hx rfl (hb hby at_76) k_) ?_
    show own_Go p e below _ T14 (mkF m 77 #[.val (.int p1), .val (.int (1 : Int32)), .val (.ref a_HELD), .val (.ref r10), .val (.ref b10), .unset] [(.int (0 : Int32))])
    refine own_by (fun t_ k_ => XS.istore X14.here hx rfl (hb hby at_77) rfl (l' := #[.val (.int p1), .val (.int (1 : Int32)), .val (.ref a_HELD), .val (.ref r10), .val (.ref b10), .val (.int (0 : Int32))]) rfl k_) ?_
    show own_Go p e below _ T14 (mkF m 79 #[.val (.int p1), .val (.int (1 : Int32)), .val (.ref a_HELD), .val (.ref r10), .val (.ref b10), .val (.int (0 : Int32))] [])
    refine own_by (fun t_ k_ => XS.aloadN X14.here hx rfl (hb hby at_79) rfl rfl k_) ?_
    show own_Go p e below _ T14 (mkF m 80 #[.val (.int p1), .val (.int (1 : Int32)), .val (.ref a_HELD), .val (.ref r10), .val (.ref b10), .val (.int (0 : Int32))] [(.ref r10)])
    have S_QUEUED_15 : Sta Z T10.heap "com/example/earnest_lease/earnestlease/protocol/Reply$Outcome" "QUEUED" "Lcom/example/earnest_lease/earnestlease/protocol/Reply$Outcome;" (.ref a_QUEUED) := (own_Sta_keep S_QUEUED K10 ns0)
    refine own_callV (W := 0) X14 hx hZ (y := (⟨"com/example/earnest_lease/earnestlease/protocol/Reply", "interim", "()Z"⟩ : MethodName)) (z := (⟨"com/example/earnest_lease/earnestlease/protocol/Reply", "interim", "()Z"⟩ : MethodName)) hown (hw _ (List.mem_of_getElem? (i := 60) rfl)) (hw _ (List.mem_of_getElem? (i := 61) rfl)) (notFace_of_selects (args := #[]) (mvT hZ (hw _ (List.mem_of_getElem? (i := 63) rfl)))) (hw _ (List.mem_of_getElem? (i := 63) rfl)) (hw _ (List.mem_of_getElem? (i := 62) rfl)) (hw _ (List.mem_of_getElem? (i := 10) rfl)) (hw _ (List.mem_of_getElem? (i := 64) rfl)) (by decide) (by rw [hml]; rfl) (argsL := []) pd_7 rfl (a := r10) e14 E10 (rm10 l Z a0 hw [] r10 a_HELD a_QUEUED T10.heap n0 sz10 Fo10 S_QUEUED_15) (by decide) (by decide) (Nat.le_of_eq rfl) (by decide) (by decide) (rest := []) rfl (hb hby at_80) ?_
    intro v16 T16 L16 X16 hQ16
    obtain ⟨rfl, N16q, e16⟩ := hQ16
    have N16 := Fr.app N14 N16q
    show own_Go p e below _ T16 (mkF m 83 #[.val (.int p1), .val (.int (1 : Int32)), .val (.ref a_HELD), .val (.ref r10), .val (.ref b10), .val (.int (0 : Int32))] [(.int (own_iq a_HELD a_QUEUED))])
    refine own_by (fun t_ k_ => XS.iload X16.here hx rfl (hb hby at_83) rfl k_) ?_
    show own_Go p e below _ T16 (mkF m 85 #[.val (.int p1), .val (.int (1 : Int32)), .val (.ref a_HELD), .val (.ref r10), .val (.ref b10), .val (.int (0 : Int32))] [(.int (0 : Int32)), (.int (own_iq a_HELD a_QUEUED))])
    refine own_icmp X16 hx 92 (hb hby at_85) (by decide) (by decide) (fun hc => absurd (show (own_iq a_HELD a_QUEUED) = (0 : Int32) from by simp [own_iq, Fld.ne F_ordinal_HELD F_ordinal_QUEUED (by decide)]) (by first | exact hc | exact not_not_intro hc)) (fun _ => ?_)
    show own_Go p e below _ T16 (mkF m 88 #[.val (.int p1), .val (.int (1 : Int32)), .val (.ref a_HELD), .val (.ref r10), .val (.ref b10), .val (.int (0 : Int32))] [])
    refine own_by (fun t_ k_ => XS.iconst X16.here hx rfl (hb hby at_88) k_) ?_
    show own_Go p e below _ T16 (mkF m 89 #[.val (.int p1), .val (.int (1 : Int32)), .val (.ref a_HELD), .val (.ref r10), .val (.ref b10), .val (.int (0 : Int32))] [(.int (1 : Int32))])
    refine own_by (fun t_ k_ => XS.goto X16.here hx rfl (pc0 := 89) (pc' := 93) rfl (hb hby at_89) (by decide) (by decide) k_) ?_
    show own_Go p e below _ T16 (mkF m 93 #[.val (.int p1), .val (.int (1 : Int32)), .val (.ref a_HELD), .val (.ref r10), .val (.ref b10), .val (.int (0 : Int32))] [(.int (1 : Int32))])
    refine own_retZw X16 hx hS10 (Nat.le_refl _) hlk Bd.returns (by decide) (hb hby at_93) e16 (by decide) (by decide) ?_
    exact ⟨rfl, N16⟩
  · show own_Go p e below _ s₁ (mkF m 8 #[.val (.int p1), .val (.int (2 : Int32)), .unset, .unset, .unset, .unset] [])
    refine own_by (fun t_ k_ => XS.iloadN X0.here hx rfl (hb hby at_8) rfl k_) ?_
    show own_Go p e below _ s₁ (mkF m 9 #[.val (.int p1), .val (.int (2 : Int32)), .unset, .unset, .unset, .unset] [(.int (2 : Int32))])
    refine own_callS (W := 0) X0 hx hZ (y := (⟨"com/example/earnest_lease/earnestlease/protocol/ReplyOfPinLaw", "pick", "(I)Lcom/example/earnest_lease/earnestlease/protocol/Reply$Outcome;"⟩ : MethodName)) hown (hw _ (List.mem_of_getElem? (i := 1) rfl)) (hw _ (List.mem_of_getElem? (i := 2) rfl)) (hw _ (List.mem_of_getElem? (i := 3) rfl)) (hw _ (List.mem_of_getElem? (i := 4) rfl)) (by decide) (by rw [hml]; rfl) (argsL := [(.int (2 : Int32))]) pd_0 rfl (rm1 l Z a0 hw [] (2 : Int32) a_RENEWED a_GRANTED a_HELD a_RENEWED a_RELEASED a_NOT_HELD a_REFUSED a_NO_LEADER a_QUEUED a_TAKEN h0 n0 Z0 S_GRANTED S_HELD S_RENEWED S_RELEASED S_NOT_HELD S_REFUSED S_NO_LEADER S_QUEUED S_TAKEN (Or.inr (Or.inr (Or.inl ⟨rfl, rfl⟩)))) (by decide) (by decide) (Nat.le_of_eq rfl) (by decide) (by decide) (rest := []) e0 rfl (hb hby at_9) ?_
    intro v17 T17 L17 X17 hQ17
    obtain ⟨rfl, N17q, e17⟩ := hQ17
    have N17 := Fr.app N0 N17q
    show own_Go p e below _ T17 (mkF m 12 #[.val (.int p1), .val (.int (2 : Int32)), .unset, .unset, .unset, .unset] [(.ref a_RENEWED)])
    refine own_by (fun t_ k_ => XS.astoreN X17.here hx rfl (hb hby at_12) rfl rfl (l' := #[.val (.int p1), .val (.int (2 : Int32)), .val (.ref a_RENEWED), .unset, .unset, .unset]) rfl k_) ?_
    show own_Go p e below _ T17 (mkF m 13 #[.val (.int p1), .val (.int (2 : Int32)), .val (.ref a_RENEWED), .unset, .unset, .unset] [])
    refine own_by (fun t_ k_ => XS.aloadN X17.here hx rfl (hb hby at_13) rfl rfl k_) ?_
    show own_Go p e below _ T17 (mkF m 14 #[.val (.int p1), .val (.int (2 : Int32)), .val (.ref a_RENEWED), .unset, .unset, .unset] [(.ref a_RENEWED)])
    refine own_callSH (W := 0) X17 hx hZ (y := (⟨"com/example/earnest_lease/earnestlease/protocol/Reply", "of", "(Lcom/example/earnest_lease/earnestlease/protocol/Reply$Outcome;)Lcom/example/earnest_lease/earnestlease/protocol/Reply;"⟩ : MethodName)) hown (hw _ (List.mem_of_getElem? (i := 8) rfl)) (hw _ (List.mem_of_getElem? (i := 9) rfl)) (hw _ (List.mem_of_getElem? (i := 10) rfl)) (hw _ (List.mem_of_getElem? (i := 11) rfl)) (by decide) (by rw [hml]; rfl) (argsL := [(.ref a_RENEWED)]) pd_1 rfl (rm2 l Z a0 hw [] a_RENEWED h0 n0 Z0 hEL) (by decide) (by decide) (Nat.le_of_eq rfl) (by decide) (by decide) (rest := []) e17 rfl (hb hby at_14) hS0 hk0 hEL hCH ?_
    intro v18 T18 L18 X18 hS18 hZ hown hQ18 H18
    obtain ⟨r18, b18, d18, rfl, N18q, K18, ⟨E18, Fo18, Ft18, Fr18⟩, Es18, W18, V18⟩ := hQ18
    have N18 := Fr.app N17 N18q
    have sz18 : n0 ≤ T18.heap.size := Nat.le_trans Z0 K18.1
    show own_Go p e below _ T18 (mkF m 17 #[.val (.int p1), .val (.int (2 : Int32)), .val (.ref a_RENEWED), .unset, .unset, .unset] [(.ref r18)])
    refine own_by (fun t_ k_ => XS.astoreN X18.here hx rfl (hb hby at_17) rfl rfl (l' := #[.val (.int p1), .val (.int (2 : Int32)), .val (.ref a_RENEWED), .val (.ref r18), .unset, .unset]) rfl k_) ?_
    show own_Go p e below _ T18 (mkF m 18 #[.val (.int p1), .val (.int (2 : Int32)), .val (.ref a_RENEWED), .val (.ref r18), .unset, .unset] [])
    refine own_by (fun t_ k_ => XS.aloadN X18.here hx rfl (hb hby at_18) rfl rfl k_) ?_
    show own_Go p e below _ T18 (mkF m 19 #[.val (.int p1), .val (.int (2 : Int32)), .val (.ref a_RENEWED), .val (.ref r18), .unset, .unset] [(.ref r18)])
    refine own_by (fun t_ k_ => XT.ifnonnullYes X18.here hx rfl (pc0 := 19) (pc' := 24) rfl (hb hby at_19) rfl (by decide) (by decide) k_) ?_
    show own_Go p e below _ T18 (mkF m 24 #[.val (.int p1), .val (.int (2 : Int32)), .val (.ref a_RENEWED), .val (.ref r18), .unset, .unset] [])
    refine own_by (fun t_ k_ => XS.aloadN X18.here hx rfl (hb hby at_24) rfl rfl k_) ?_
    show own_Go p e below _ T18 (mkF m 25 #[.val (.int p1), .val (.int (2 : Int32)), .val (.ref a_RENEWED), .val (.ref r18), .unset, .unset] [(.ref r18)])
    refine own_callV (W := 0) X18 hx hZ (y := (⟨"com/example/earnest_lease/earnestlease/protocol/Reply", "outcome", "()Lcom/example/earnest_lease/earnestlease/protocol/Reply$Outcome;"⟩ : MethodName)) (z := (⟨"com/example/earnest_lease/earnestlease/protocol/Reply", "outcome", "()Lcom/example/earnest_lease/earnestlease/protocol/Reply$Outcome;"⟩ : MethodName)) hown (hw _ (List.mem_of_getElem? (i := 39) rfl)) (hw _ (List.mem_of_getElem? (i := 40) rfl)) (notFace_of_selects (args := #[]) (mvT hZ (hw _ (List.mem_of_getElem? (i := 42) rfl)))) (hw _ (List.mem_of_getElem? (i := 42) rfl)) (hw _ (List.mem_of_getElem? (i := 41) rfl)) (hw _ (List.mem_of_getElem? (i := 10) rfl)) (hw _ (List.mem_of_getElem? (i := 43) rfl)) (by decide) (by rw [hml]; rfl) (argsL := []) pd_4 rfl (a := r18) rfl E18 (rm6 l Z a0 hw [] r18 a_RENEWED T18.heap n0 sz18 Fo18) (by decide) (by decide) (Nat.le_of_eq rfl) (by decide) (by decide) (rest := []) rfl (hb hby at_25) ?_
    intro v19 T19 L19 X19 hQ19
    obtain ⟨rfl, N19q, e19⟩ := hQ19
    have N19 := Fr.app N18 N19q
    show own_Go p e below _ T19 (mkF m 28 #[.val (.int p1), .val (.int (2 : Int32)), .val (.ref a_RENEWED), .val (.ref r18), .unset, .unset] [(.ref a_RENEWED)])
    refine own_by (fun t_ k_ => XS.aloadN X19.here hx rfl (hb hby at_28) rfl rfl k_) ?_
    show own_Go p e below _ T19 (mkF m 29 #[.val (.int p1), .val (.int (2 : Int32)), .val (.ref a_RENEWED), .val (.ref r18), .unset, .unset] [(.ref a_RENEWED), (.ref a_RENEWED)])
    refine own_by (fun t_ k_ => Jvm.RoadKit.acmp (g := (mkF m 29 #[.val (.int p1), .val (.int (2 : Int32)), .val (.ref a_RENEWED), .val (.ref r18), .unset, .unset] [(.ref a_RENEWED), (.ref a_RENEWED)])) X19 hx rfl rfl rfl (pc0 := 29) (pc' := 34) (same := true) rfl (hb hby at_29) rfl (decide_eq_true rfl) (by decide) (by decide) k_) ?_
    show own_Go p e below _ T19 (mkF m 34 #[.val (.int p1), .val (.int (2 : Int32)), .val (.ref a_RENEWED), .val (.ref r18), .unset, .unset] [])
    refine own_by (fun t_ k_ => XS.aloadN X19.here hx rfl (hb hby at_34) rfl rfl k_) ?_
    show own_Go p e below _ T19 (mkF m 35 #[.val (.int p1), .val (.int (2 : Int32)), .val (.ref a_RENEWED), .val (.ref r18), .unset, .unset] [(.ref r18)])
    refine own_callV (W := 0) X19 hx hZ (y := (⟨"com/example/earnest_lease/earnestlease/protocol/Reply", "token", "()J"⟩ : MethodName)) (z := (⟨"com/example/earnest_lease/earnestlease/protocol/Reply", "token", "()J"⟩ : MethodName)) hown (hw _ (List.mem_of_getElem? (i := 44) rfl)) (hw _ (List.mem_of_getElem? (i := 45) rfl)) (notFace_of_selects (args := #[]) (mvT hZ (hw _ (List.mem_of_getElem? (i := 47) rfl)))) (hw _ (List.mem_of_getElem? (i := 47) rfl)) (hw _ (List.mem_of_getElem? (i := 46) rfl)) (hw _ (List.mem_of_getElem? (i := 10) rfl)) (hw _ (List.mem_of_getElem? (i := 48) rfl)) (by decide) (by rw [hml]; rfl) (argsL := []) pd_5 rfl (a := r18) e19 E18 (rm7 l Z a0 hw [] r18 T18.heap n0 sz18 Ft18) (by decide) (by decide) (Nat.le_of_eq rfl) (by decide) (by decide) (rest := []) rfl (hb hby at_35) ?_
    intro v20 T20 L20 X20 hQ20
    obtain ⟨rfl, N20q, e20⟩ := hQ20
    have N20 := Fr.app N19 N20q
    show own_Go p e below _ T20 (mkF m 38 #[.val (.int p1), .val (.int (2 : Int32)), .val (.ref a_RENEWED), .val (.ref r18), .unset, .unset] [(.long (0 : Int64))])
    refine own_by (fun t_ k_ => XT.lconst X20.here hx rfl (hb hby at_38) k_) ?_
    show own_Go p e below _ T20 (mkF m 39 #[.val (.int p1), .val (.int (2 : Int32)), .val (.ref a_RENEWED), .val (.ref r18), .unset, .unset] [(.long (0 : Int64)), (.long (0 : Int64))])
    refine own_by (fun t_ k_ => XT.lcmp X20.here hx rfl (hb hby at_39) rfl k_) ?_
    show own_Go p e below _ T20 (mkF m 40 #[.val (.int p1), .val (.int (2 : Int32)), .val (.ref a_RENEWED), .val (.ref r18), .unset, .unset] [(.int (XT.cmpL (0 : Int64) (0 : Int64)))])
    refine own_if X20 hx 45 (hb hby at_40) (by decide) (by decide) (fun _ => ?_) (fun hc => absurd (show (XT.cmpL (0 : Int64) (0 : Int64)) = (0 : Int32) from by decide) (by first | exact hc | exact not_not_intro hc))
    show own_Go p e below _ T20 (mkF m 45 #[.val (.int p1), .val (.int (2 : Int32)), .val (.ref a_RENEWED), .val (.ref r18), .unset, .unset] [])
    refine own_by (fun t_ k_ => XS.aloadN X20.here hx rfl (hb hby at_45) rfl rfl k_) ?_
    show own_Go p e below _ T20 (mkF m 46 #[.val (.int p1), .val (.int (2 : Int32)), .val (.ref a_RENEWED), .val (.ref r18), .unset, .unset] [(.ref r18)])
    refine own_callV (W := 0) X20 hx hZ (y := (⟨"com/example/earnest_lease/earnestlease/protocol/Reply", "reason", "()Ljava/lang/String;"⟩ : MethodName)) (z := (⟨"com/example/earnest_lease/earnestlease/protocol/Reply", "reason", "()Ljava/lang/String;"⟩ : MethodName)) hown (hw _ (List.mem_of_getElem? (i := 49) rfl)) (hw _ (List.mem_of_getElem? (i := 50) rfl)) (notFace_of_selects (args := #[]) (mvT hZ (hw _ (List.mem_of_getElem? (i := 52) rfl)))) (hw _ (List.mem_of_getElem? (i := 52) rfl)) (hw _ (List.mem_of_getElem? (i := 51) rfl)) (hw _ (List.mem_of_getElem? (i := 10) rfl)) (hw _ (List.mem_of_getElem? (i := 53) rfl)) (by decide) (by rw [hml]; rfl) (argsL := []) pd_6 rfl (a := r18) e20 E18 (rm8 l Z a0 hw [] r18 b18 T18.heap n0 sz18 Fr18) (by decide) (by decide) (Nat.le_of_eq rfl) (by decide) (by decide) (rest := []) rfl (hb hby at_46) ?_
    intro v21 T21 L21 X21 hQ21
    obtain ⟨rfl, N21q, e21⟩ := hQ21
    have N21 := Fr.app N20 N21q
    show own_Go p e below _ T21 (mkF m 49 #[.val (.int p1), .val (.int (2 : Int32)), .val (.ref a_RENEWED), .val (.ref r18), .unset, .unset] [(.ref b18)])
    refine own_by (fun t_ k_ => XS.astore X21.here hx rfl (hb hby at_49) rfl rfl (l' := #[.val (.int p1), .val (.int (2 : Int32)), .val (.ref a_RENEWED), .val (.ref r18), .val (.ref b18), .unset]) rfl k_) ?_
    show own_Go p e below _ T21 (mkF m 51 #[.val (.int p1), .val (.int (2 : Int32)), .val (.ref a_RENEWED), .val (.ref r18), .val (.ref b18), .unset] [])
    refine own_by (fun t_ k_ => XS.aload X21.here hx rfl (hb hby at_51) rfl rfl k_) ?_
    show own_Go p e below _ T21 (mkF m 53 #[.val (.int p1), .val (.int (2 : Int32)), .val (.ref a_RENEWED), .val (.ref r18), .val (.ref b18), .unset] [(.ref b18)])
    refine own_by (fun t_ k_ => XS.ifnullNo X21.here hx rfl (hb hby at_53) rfl k_) ?_
    show own_Go p e below _ T21 (mkF m 56 #[.val (.int p1), .val (.int (2 : Int32)), .val (.ref a_RENEWED), .val (.ref r18), .val (.ref b18), .unset] [])
    refine own_by (fun t_ k_ => XS.aload X21.here hx rfl (hb hby at_56) rfl rfl k_) ?_
    show own_Go p e below _ T21 (mkF m 58 #[.val (.int p1), .val (.int (2 : Int32)), .val (.ref a_RENEWED), .val (.ref r18), .val (.ref b18), .unset] [(.ref b18)])
    refine own_callV (W := 0) X21 hx hZ (y := (⟨"java/lang/String", "isEmpty", "()Z"⟩ : MethodName)) (z := (⟨"java/lang/String", "isEmpty", "()Z"⟩ : MethodName)) hown (hw _ (List.mem_of_getElem? (i := 54) rfl)) (hw _ (List.mem_of_getElem? (i := 55) rfl)) (notFace_of_selects (args := #[]) (mvT hZ (hw _ (List.mem_of_getElem? (i := 57) rfl)))) (hw _ (List.mem_of_getElem? (i := 57) rfl)) (hw _ (List.mem_of_getElem? (i := 56) rfl)) (hw _ (List.mem_of_getElem? (i := 15) rfl)) (hw _ (List.mem_of_getElem? (i := 58) rfl)) (by decide) (by rw [hml]; rfl) (argsL := []) pd_7 rfl (a := b18) e21 Es18 (rm9 l Z a0 hw [] b18 d18 T18.heap n0 sz18 W18 V18) (by decide) (by decide) (Nat.le_of_eq rfl) (by decide) (by decide) (rest := []) rfl (hb hby at_58) ?_
    intro v22 T22 L22 X22 hQ22
    obtain ⟨rfl, N22q, e22⟩ := hQ22
    have N22 := Fr.app N21 N22q
    show own_Go p e below _ T22 (mkF m 61 #[.val (.int p1), .val (.int (2 : Int32)), .val (.ref a_RENEWED), .val (.ref r18), .val (.ref b18), .unset] [(.int (1 : Int32))])
    refine own_if X22 hx 66 (hb hby at_61) (by decide) (by decide) (fun _ => ?_) (fun hc => absurd (show ¬ (1 : Int32) = (0 : Int32) from by decide) (by first | exact hc | exact not_not_intro hc))
    show own_Go p e below _ T22 (mkF m 66 #[.val (.int p1), .val (.int (2 : Int32)), .val (.ref a_RENEWED), .val (.ref r18), .val (.ref b18), .unset] [])
    refine own_by (fun t_ k_ => XS.iloadN X22.here hx rfl (hb hby at_66) rfl k_) ?_
    show own_Go p e below _ T22 (mkF m 67 #[.val (.int p1), .val (.int (2 : Int32)), .val (.ref a_RENEWED), .val (.ref r18), .val (.ref b18), .unset] [(.int (2 : Int32))])
    refine own_by (fun t_ k_ => XS.bipush X22.here hx rfl (hb hby at_67) k_) ?_
    show own_Go p e below _ T22 (mkF m 69 #[.val (.int p1), .val (.int (2 : Int32)), .val (.ref a_RENEWED), .val (.ref r18), .val (.ref b18), .unset] [(.int (7 : Int32)), (.int (2 : Int32))])
    refine own_icmp X22 hx 76 (hb hby at_69) (by decide) (by decide) (fun _ => ?_) (fun hc => absurd (show ¬ (2 : Int32) = (7 : Int32) from by decide) (by first | exact hc | exact not_not_intro hc))
    show own_Go p e below _ T22 (mkF m 76 #[.val (.int p1), .val (.int (2 : Int32)), .val (.ref a_RENEWED), .val (.ref r18), .val (.ref b18), .unset] [])
    refine own_by (fun t_ k_ => XS.iconst X22.here hx rfl (hb hby at_76) k_) ?_
    show own_Go p e below _ T22 (mkF m 77 #[.val (.int p1), .val (.int (2 : Int32)), .val (.ref a_RENEWED), .val (.ref r18), .val (.ref b18), .unset] [(.int (0 : Int32))])
    refine own_by (fun t_ k_ => XS.istore X22.here hx rfl (hb hby at_77) rfl (l' := #[.val (.int p1), .val (.int (2 : Int32)), .val (.ref a_RENEWED), .val (.ref r18), .val (.ref b18), .val (.int (0 : Int32))]) rfl k_) ?_
    show own_Go p e below _ T22 (mkF m 79 #[.val (.int p1), .val (.int (2 : Int32)), .val (.ref a_RENEWED), .val (.ref r18), .val (.ref b18), .val (.int (0 : Int32))] [])
    refine own_by (fun t_ k_ => XS.aloadN X22.here hx rfl (hb hby at_79) rfl rfl k_) ?_
    show own_Go p e below _ T22 (mkF m 80 #[.val (.int p1), .val (.int (2 : Int32)), .val (.ref a_RENEWED), .val (.ref r18), .val (.ref b18), .val (.int (0 : Int32))] [(.ref r18)])
    have S_QUEUED_23 : Sta Z T18.heap "com/example/earnest_lease/earnestlease/protocol/Reply$Outcome" "QUEUED" "Lcom/example/earnest_lease/earnestlease/protocol/Reply$Outcome;" (.ref a_QUEUED) := (own_Sta_keep S_QUEUED K18 ns0)
    refine own_callV (W := 0) X22 hx hZ (y := (⟨"com/example/earnest_lease/earnestlease/protocol/Reply", "interim", "()Z"⟩ : MethodName)) (z := (⟨"com/example/earnest_lease/earnestlease/protocol/Reply", "interim", "()Z"⟩ : MethodName)) hown (hw _ (List.mem_of_getElem? (i := 60) rfl)) (hw _ (List.mem_of_getElem? (i := 61) rfl)) (notFace_of_selects (args := #[]) (mvT hZ (hw _ (List.mem_of_getElem? (i := 63) rfl)))) (hw _ (List.mem_of_getElem? (i := 63) rfl)) (hw _ (List.mem_of_getElem? (i := 62) rfl)) (hw _ (List.mem_of_getElem? (i := 10) rfl)) (hw _ (List.mem_of_getElem? (i := 64) rfl)) (by decide) (by rw [hml]; rfl) (argsL := []) pd_7 rfl (a := r18) e22 E18 (rm10 l Z a0 hw [] r18 a_RENEWED a_QUEUED T18.heap n0 sz18 Fo18 S_QUEUED_23) (by decide) (by decide) (Nat.le_of_eq rfl) (by decide) (by decide) (rest := []) rfl (hb hby at_80) ?_
    intro v24 T24 L24 X24 hQ24
    obtain ⟨rfl, N24q, e24⟩ := hQ24
    have N24 := Fr.app N22 N24q
    show own_Go p e below _ T24 (mkF m 83 #[.val (.int p1), .val (.int (2 : Int32)), .val (.ref a_RENEWED), .val (.ref r18), .val (.ref b18), .val (.int (0 : Int32))] [(.int (own_iq a_RENEWED a_QUEUED))])
    refine own_by (fun t_ k_ => XS.iload X24.here hx rfl (hb hby at_83) rfl k_) ?_
    show own_Go p e below _ T24 (mkF m 85 #[.val (.int p1), .val (.int (2 : Int32)), .val (.ref a_RENEWED), .val (.ref r18), .val (.ref b18), .val (.int (0 : Int32))] [(.int (0 : Int32)), (.int (own_iq a_RENEWED a_QUEUED))])
    refine own_icmp X24 hx 92 (hb hby at_85) (by decide) (by decide) (fun hc => absurd (show (own_iq a_RENEWED a_QUEUED) = (0 : Int32) from by simp [own_iq, Fld.ne F_ordinal_RENEWED F_ordinal_QUEUED (by decide)]) (by first | exact hc | exact not_not_intro hc)) (fun _ => ?_)
    show own_Go p e below _ T24 (mkF m 88 #[.val (.int p1), .val (.int (2 : Int32)), .val (.ref a_RENEWED), .val (.ref r18), .val (.ref b18), .val (.int (0 : Int32))] [])
    refine own_by (fun t_ k_ => XS.iconst X24.here hx rfl (hb hby at_88) k_) ?_
    show own_Go p e below _ T24 (mkF m 89 #[.val (.int p1), .val (.int (2 : Int32)), .val (.ref a_RENEWED), .val (.ref r18), .val (.ref b18), .val (.int (0 : Int32))] [(.int (1 : Int32))])
    refine own_by (fun t_ k_ => XS.goto X24.here hx rfl (pc0 := 89) (pc' := 93) rfl (hb hby at_89) (by decide) (by decide) k_) ?_
    show own_Go p e below _ T24 (mkF m 93 #[.val (.int p1), .val (.int (2 : Int32)), .val (.ref a_RENEWED), .val (.ref r18), .val (.ref b18), .val (.int (0 : Int32))] [(.int (1 : Int32))])
    refine own_retZw X24 hx hS18 (Nat.le_refl _) hlk Bd.returns (by decide) (hb hby at_93) e24 (by decide) (by decide) ?_
    exact ⟨rfl, N24⟩
  · show own_Go p e below _ s₁ (mkF m 8 #[.val (.int p1), .val (.int (3 : Int32)), .unset, .unset, .unset, .unset] [])
    refine own_by (fun t_ k_ => XS.iloadN X0.here hx rfl (hb hby at_8) rfl k_) ?_
    show own_Go p e below _ s₁ (mkF m 9 #[.val (.int p1), .val (.int (3 : Int32)), .unset, .unset, .unset, .unset] [(.int (3 : Int32))])
    refine own_callS (W := 0) X0 hx hZ (y := (⟨"com/example/earnest_lease/earnestlease/protocol/ReplyOfPinLaw", "pick", "(I)Lcom/example/earnest_lease/earnestlease/protocol/Reply$Outcome;"⟩ : MethodName)) hown (hw _ (List.mem_of_getElem? (i := 1) rfl)) (hw _ (List.mem_of_getElem? (i := 2) rfl)) (hw _ (List.mem_of_getElem? (i := 3) rfl)) (hw _ (List.mem_of_getElem? (i := 4) rfl)) (by decide) (by rw [hml]; rfl) (argsL := [(.int (3 : Int32))]) pd_0 rfl (rm1 l Z a0 hw [] (3 : Int32) a_RELEASED a_GRANTED a_HELD a_RENEWED a_RELEASED a_NOT_HELD a_REFUSED a_NO_LEADER a_QUEUED a_TAKEN h0 n0 Z0 S_GRANTED S_HELD S_RENEWED S_RELEASED S_NOT_HELD S_REFUSED S_NO_LEADER S_QUEUED S_TAKEN (Or.inr (Or.inr (Or.inr (Or.inl ⟨rfl, rfl⟩))))) (by decide) (by decide) (Nat.le_of_eq rfl) (by decide) (by decide) (rest := []) e0 rfl (hb hby at_9) ?_
    intro v25 T25 L25 X25 hQ25
    obtain ⟨rfl, N25q, e25⟩ := hQ25
    have N25 := Fr.app N0 N25q
    show own_Go p e below _ T25 (mkF m 12 #[.val (.int p1), .val (.int (3 : Int32)), .unset, .unset, .unset, .unset] [(.ref a_RELEASED)])
    refine own_by (fun t_ k_ => XS.astoreN X25.here hx rfl (hb hby at_12) rfl rfl (l' := #[.val (.int p1), .val (.int (3 : Int32)), .val (.ref a_RELEASED), .unset, .unset, .unset]) rfl k_) ?_
    show own_Go p e below _ T25 (mkF m 13 #[.val (.int p1), .val (.int (3 : Int32)), .val (.ref a_RELEASED), .unset, .unset, .unset] [])
    refine own_by (fun t_ k_ => XS.aloadN X25.here hx rfl (hb hby at_13) rfl rfl k_) ?_
    show own_Go p e below _ T25 (mkF m 14 #[.val (.int p1), .val (.int (3 : Int32)), .val (.ref a_RELEASED), .unset, .unset, .unset] [(.ref a_RELEASED)])
    refine own_callSH (W := 0) X25 hx hZ (y := (⟨"com/example/earnest_lease/earnestlease/protocol/Reply", "of", "(Lcom/example/earnest_lease/earnestlease/protocol/Reply$Outcome;)Lcom/example/earnest_lease/earnestlease/protocol/Reply;"⟩ : MethodName)) hown (hw _ (List.mem_of_getElem? (i := 8) rfl)) (hw _ (List.mem_of_getElem? (i := 9) rfl)) (hw _ (List.mem_of_getElem? (i := 10) rfl)) (hw _ (List.mem_of_getElem? (i := 11) rfl)) (by decide) (by rw [hml]; rfl) (argsL := [(.ref a_RELEASED)]) pd_1 rfl (rm2 l Z a0 hw [] a_RELEASED h0 n0 Z0 hEL) (by decide) (by decide) (Nat.le_of_eq rfl) (by decide) (by decide) (rest := []) e25 rfl (hb hby at_14) hS0 hk0 hEL hCH ?_
    intro v26 T26 L26 X26 hS26 hZ hown hQ26 H26
    obtain ⟨r26, b26, d26, rfl, N26q, K26, ⟨E26, Fo26, Ft26, Fr26⟩, Es26, W26, V26⟩ := hQ26
    have N26 := Fr.app N25 N26q
    have sz26 : n0 ≤ T26.heap.size := Nat.le_trans Z0 K26.1
    show own_Go p e below _ T26 (mkF m 17 #[.val (.int p1), .val (.int (3 : Int32)), .val (.ref a_RELEASED), .unset, .unset, .unset] [(.ref r26)])
    refine own_by (fun t_ k_ => XS.astoreN X26.here hx rfl (hb hby at_17) rfl rfl (l' := #[.val (.int p1), .val (.int (3 : Int32)), .val (.ref a_RELEASED), .val (.ref r26), .unset, .unset]) rfl k_) ?_
    show own_Go p e below _ T26 (mkF m 18 #[.val (.int p1), .val (.int (3 : Int32)), .val (.ref a_RELEASED), .val (.ref r26), .unset, .unset] [])
    refine own_by (fun t_ k_ => XS.aloadN X26.here hx rfl (hb hby at_18) rfl rfl k_) ?_
    show own_Go p e below _ T26 (mkF m 19 #[.val (.int p1), .val (.int (3 : Int32)), .val (.ref a_RELEASED), .val (.ref r26), .unset, .unset] [(.ref r26)])
    refine own_by (fun t_ k_ => XT.ifnonnullYes X26.here hx rfl (pc0 := 19) (pc' := 24) rfl (hb hby at_19) rfl (by decide) (by decide) k_) ?_
    show own_Go p e below _ T26 (mkF m 24 #[.val (.int p1), .val (.int (3 : Int32)), .val (.ref a_RELEASED), .val (.ref r26), .unset, .unset] [])
    refine own_by (fun t_ k_ => XS.aloadN X26.here hx rfl (hb hby at_24) rfl rfl k_) ?_
    show own_Go p e below _ T26 (mkF m 25 #[.val (.int p1), .val (.int (3 : Int32)), .val (.ref a_RELEASED), .val (.ref r26), .unset, .unset] [(.ref r26)])
    refine own_callV (W := 0) X26 hx hZ (y := (⟨"com/example/earnest_lease/earnestlease/protocol/Reply", "outcome", "()Lcom/example/earnest_lease/earnestlease/protocol/Reply$Outcome;"⟩ : MethodName)) (z := (⟨"com/example/earnest_lease/earnestlease/protocol/Reply", "outcome", "()Lcom/example/earnest_lease/earnestlease/protocol/Reply$Outcome;"⟩ : MethodName)) hown (hw _ (List.mem_of_getElem? (i := 39) rfl)) (hw _ (List.mem_of_getElem? (i := 40) rfl)) (notFace_of_selects (args := #[]) (mvT hZ (hw _ (List.mem_of_getElem? (i := 42) rfl)))) (hw _ (List.mem_of_getElem? (i := 42) rfl)) (hw _ (List.mem_of_getElem? (i := 41) rfl)) (hw _ (List.mem_of_getElem? (i := 10) rfl)) (hw _ (List.mem_of_getElem? (i := 43) rfl)) (by decide) (by rw [hml]; rfl) (argsL := []) pd_4 rfl (a := r26) rfl E26 (rm6 l Z a0 hw [] r26 a_RELEASED T26.heap n0 sz26 Fo26) (by decide) (by decide) (Nat.le_of_eq rfl) (by decide) (by decide) (rest := []) rfl (hb hby at_25) ?_
    intro v27 T27 L27 X27 hQ27
    obtain ⟨rfl, N27q, e27⟩ := hQ27
    have N27 := Fr.app N26 N27q
    show own_Go p e below _ T27 (mkF m 28 #[.val (.int p1), .val (.int (3 : Int32)), .val (.ref a_RELEASED), .val (.ref r26), .unset, .unset] [(.ref a_RELEASED)])
    refine own_by (fun t_ k_ => XS.aloadN X27.here hx rfl (hb hby at_28) rfl rfl k_) ?_
    show own_Go p e below _ T27 (mkF m 29 #[.val (.int p1), .val (.int (3 : Int32)), .val (.ref a_RELEASED), .val (.ref r26), .unset, .unset] [(.ref a_RELEASED), (.ref a_RELEASED)])
    refine own_by (fun t_ k_ => Jvm.RoadKit.acmp (g := (mkF m 29 #[.val (.int p1), .val (.int (3 : Int32)), .val (.ref a_RELEASED), .val (.ref r26), .unset, .unset] [(.ref a_RELEASED), (.ref a_RELEASED)])) X27 hx rfl rfl rfl (pc0 := 29) (pc' := 34) (same := true) rfl (hb hby at_29) rfl (decide_eq_true rfl) (by decide) (by decide) k_) ?_
    show own_Go p e below _ T27 (mkF m 34 #[.val (.int p1), .val (.int (3 : Int32)), .val (.ref a_RELEASED), .val (.ref r26), .unset, .unset] [])
    refine own_by (fun t_ k_ => XS.aloadN X27.here hx rfl (hb hby at_34) rfl rfl k_) ?_
    show own_Go p e below _ T27 (mkF m 35 #[.val (.int p1), .val (.int (3 : Int32)), .val (.ref a_RELEASED), .val (.ref r26), .unset, .unset] [(.ref r26)])
    refine own_callV (W := 0) X27 hx hZ (y := (⟨"com/example/earnest_lease/earnestlease/protocol/Reply", "token", "()J"⟩ : MethodName)) (z := (⟨"com/example/earnest_lease/earnestlease/protocol/Reply", "token", "()J"⟩ : MethodName)) hown (hw _ (List.mem_of_getElem? (i := 44) rfl)) (hw _ (List.mem_of_getElem? (i := 45) rfl)) (notFace_of_selects (args := #[]) (mvT hZ (hw _ (List.mem_of_getElem? (i := 47) rfl)))) (hw _ (List.mem_of_getElem? (i := 47) rfl)) (hw _ (List.mem_of_getElem? (i := 46) rfl)) (hw _ (List.mem_of_getElem? (i := 10) rfl)) (hw _ (List.mem_of_getElem? (i := 48) rfl)) (by decide) (by rw [hml]; rfl) (argsL := []) pd_5 rfl (a := r26) e27 E26 (rm7 l Z a0 hw [] r26 T26.heap n0 sz26 Ft26) (by decide) (by decide) (Nat.le_of_eq rfl) (by decide) (by decide) (rest := []) rfl (hb hby at_35) ?_
    intro v28 T28 L28 X28 hQ28
    obtain ⟨rfl, N28q, e28⟩ := hQ28
    have N28 := Fr.app N27 N28q
    show own_Go p e below _ T28 (mkF m 38 #[.val (.int p1), .val (.int (3 : Int32)), .val (.ref a_RELEASED), .val (.ref r26), .unset, .unset] [(.long (0 : Int64))])
    refine own_by (fun t_ k_ => XT.lconst X28.here hx rfl (hb hby at_38) k_) ?_
    show own_Go p e below _ T28 (mkF m 39 #[.val (.int p1), .val (.int (3 : Int32)), .val (.ref a_RELEASED), .val (.ref r26), .unset, .unset] [(.long (0 : Int64)), (.long (0 : Int64))])
    refine own_by (fun t_ k_ => XT.lcmp X28.here hx rfl (hb hby at_39) rfl k_) ?_
    show own_Go p e below _ T28 (mkF m 40 #[.val (.int p1), .val (.int (3 : Int32)), .val (.ref a_RELEASED), .val (.ref r26), .unset, .unset] [(.int (XT.cmpL (0 : Int64) (0 : Int64)))])
    refine own_if X28 hx 45 (hb hby at_40) (by decide) (by decide) (fun _ => ?_) (fun hc => absurd (show (XT.cmpL (0 : Int64) (0 : Int64)) = (0 : Int32) from by decide) (by first | exact hc | exact not_not_intro hc))
    show own_Go p e below _ T28 (mkF m 45 #[.val (.int p1), .val (.int (3 : Int32)), .val (.ref a_RELEASED), .val (.ref r26), .unset, .unset] [])
    refine own_by (fun t_ k_ => XS.aloadN X28.here hx rfl (hb hby at_45) rfl rfl k_) ?_
    show own_Go p e below _ T28 (mkF m 46 #[.val (.int p1), .val (.int (3 : Int32)), .val (.ref a_RELEASED), .val (.ref r26), .unset, .unset] [(.ref r26)])
    refine own_callV (W := 0) X28 hx hZ (y := (⟨"com/example/earnest_lease/earnestlease/protocol/Reply", "reason", "()Ljava/lang/String;"⟩ : MethodName)) (z := (⟨"com/example/earnest_lease/earnestlease/protocol/Reply", "reason", "()Ljava/lang/String;"⟩ : MethodName)) hown (hw _ (List.mem_of_getElem? (i := 49) rfl)) (hw _ (List.mem_of_getElem? (i := 50) rfl)) (notFace_of_selects (args := #[]) (mvT hZ (hw _ (List.mem_of_getElem? (i := 52) rfl)))) (hw _ (List.mem_of_getElem? (i := 52) rfl)) (hw _ (List.mem_of_getElem? (i := 51) rfl)) (hw _ (List.mem_of_getElem? (i := 10) rfl)) (hw _ (List.mem_of_getElem? (i := 53) rfl)) (by decide) (by rw [hml]; rfl) (argsL := []) pd_6 rfl (a := r26) e28 E26 (rm8 l Z a0 hw [] r26 b26 T26.heap n0 sz26 Fr26) (by decide) (by decide) (Nat.le_of_eq rfl) (by decide) (by decide) (rest := []) rfl (hb hby at_46) ?_
    intro v29 T29 L29 X29 hQ29
    obtain ⟨rfl, N29q, e29⟩ := hQ29
    have N29 := Fr.app N28 N29q
    show own_Go p e below _ T29 (mkF m 49 #[.val (.int p1), .val (.int (3 : Int32)), .val (.ref a_RELEASED), .val (.ref r26), .unset, .unset] [(.ref b26)])
    refine own_by (fun t_ k_ => XS.astore X29.here hx rfl (hb hby at_49) rfl rfl (l' := #[.val (.int p1), .val (.int (3 : Int32)), .val (.ref a_RELEASED), .val (.ref r26), .val (.ref b26), .unset]) rfl k_) ?_
    show own_Go p e below _ T29 (mkF m 51 #[.val (.int p1), .val (.int (3 : Int32)), .val (.ref a_RELEASED), .val (.ref r26), .val (.ref b26), .unset] [])
    refine own_by (fun t_ k_ => XS.aload X29.here hx rfl (hb hby at_51) rfl rfl k_) ?_
    show own_Go p e below _ T29 (mkF m 53 #[.val (.int p1), .val (.int (3 : Int32)), .val (.ref a_RELEASED), .val (.ref r26), .val (.ref b26), .unset] [(.ref b26)])
    refine own_by (fun t_ k_ => XS.ifnullNo X29.here hx rfl (hb hby at_53) rfl k_) ?_
    show own_Go p e below _ T29 (mkF m 56 #[.val (.int p1), .val (.int (3 : Int32)), .val (.ref a_RELEASED), .val (.ref r26), .val (.ref b26), .unset] [])
    refine own_by (fun t_ k_ => XS.aload X29.here hx rfl (hb hby at_56) rfl rfl k_) ?_
    show own_Go p e below _ T29 (mkF m 58 #[.val (.int p1), .val (.int (3 : Int32)), .val (.ref a_RELEASED), .val (.ref r26), .val (.ref b26), .unset] [(.ref b26)])
    refine own_callV (W := 0) X29 hx hZ (y := (⟨"java/lang/String", "isEmpty", "()Z"⟩ : MethodName)) (z := (⟨"java/lang/String", "isEmpty", "()Z"⟩ : MethodName)) hown (hw _ (List.mem_of_getElem? (i := 54) rfl)) (hw _ (List.mem_of_getElem? (i := 55) rfl)) (notFace_of_selects (args := #[]) (mvT hZ (hw _ (List.mem_of_getElem? (i := 57) rfl)))) (hw _ (List.mem_of_getElem? (i := 57) rfl)) (hw _ (List.mem_of_getElem? (i := 56) rfl)) (hw _ (List.mem_of_getElem? (i := 15) rfl)) (hw _ (List.mem_of_getElem? (i := 58) rfl)) (by decide) (by rw [hml]; rfl) (argsL := []) pd_7 rfl (a := b26) e29 Es26 (rm9 l Z a0 hw [] b26 d26 T26.heap n0 sz26 W26 V26) (by decide) (by decide) (Nat.le_of_eq rfl) (by decide) (by decide) (rest := []) rfl (hb hby at_58) ?_
    intro v30 T30 L30 X30 hQ30
    obtain ⟨rfl, N30q, e30⟩ := hQ30
    have N30 := Fr.app N29 N30q
    show own_Go p e below _ T30 (mkF m 61 #[.val (.int p1), .val (.int (3 : Int32)), .val (.ref a_RELEASED), .val (.ref r26), .val (.ref b26), .unset] [(.int (1 : Int32))])
    refine own_if X30 hx 66 (hb hby at_61) (by decide) (by decide) (fun _ => ?_) (fun hc => absurd (show ¬ (1 : Int32) = (0 : Int32) from by decide) (by first | exact hc | exact not_not_intro hc))
    show own_Go p e below _ T30 (mkF m 66 #[.val (.int p1), .val (.int (3 : Int32)), .val (.ref a_RELEASED), .val (.ref r26), .val (.ref b26), .unset] [])
    refine own_by (fun t_ k_ => XS.iloadN X30.here hx rfl (hb hby at_66) rfl k_) ?_
    show own_Go p e below _ T30 (mkF m 67 #[.val (.int p1), .val (.int (3 : Int32)), .val (.ref a_RELEASED), .val (.ref r26), .val (.ref b26), .unset] [(.int (3 : Int32))])
    refine own_by (fun t_ k_ => XS.bipush X30.here hx rfl (hb hby at_67) k_) ?_
    show own_Go p e below _ T30 (mkF m 69 #[.val (.int p1), .val (.int (3 : Int32)), .val (.ref a_RELEASED), .val (.ref r26), .val (.ref b26), .unset] [(.int (7 : Int32)), (.int (3 : Int32))])
    refine own_icmp X30 hx 76 (hb hby at_69) (by decide) (by decide) (fun _ => ?_) (fun hc => absurd (show ¬ (3 : Int32) = (7 : Int32) from by decide) (by first | exact hc | exact not_not_intro hc))
    show own_Go p e below _ T30 (mkF m 76 #[.val (.int p1), .val (.int (3 : Int32)), .val (.ref a_RELEASED), .val (.ref r26), .val (.ref b26), .unset] [])
    refine own_by (fun t_ k_ => XS.iconst X30.here hx rfl (hb hby at_76) k_) ?_
    show own_Go p e below _ T30 (mkF m 77 #[.val (.int p1), .val (.int (3 : Int32)), .val (.ref a_RELEASED), .val (.ref r26), .val (.ref b26), .unset] [(.int (0 : Int32))])
    refine own_by (fun t_ k_ => XS.istore X30.here hx rfl (hb hby at_77) rfl (l' := #[.val (.int p1), .val (.int (3 : Int32)), .val (.ref a_RELEASED), .val (.ref r26), .val (.ref b26), .val (.int (0 : Int32))]) rfl k_) ?_
    show own_Go p e below _ T30 (mkF m 79 #[.val (.int p1), .val (.int (3 : Int32)), .val (.ref a_RELEASED), .val (.ref r26), .val (.ref b26), .val (.int (0 : Int32))] [])
    refine own_by (fun t_ k_ => XS.aloadN X30.here hx rfl (hb hby at_79) rfl rfl k_) ?_
    show own_Go p e below _ T30 (mkF m 80 #[.val (.int p1), .val (.int (3 : Int32)), .val (.ref a_RELEASED), .val (.ref r26), .val (.ref b26), .val (.int (0 : Int32))] [(.ref r26)])
    have S_QUEUED_31 : Sta Z T26.heap "com/example/earnest_lease/earnestlease/protocol/Reply$Outcome" "QUEUED" "Lcom/example/earnest_lease/earnestlease/protocol/Reply$Outcome;" (.ref a_QUEUED) := (own_Sta_keep S_QUEUED K26 ns0)
    refine own_callV (W := 0) X30 hx hZ (y := (⟨"com/example/earnest_lease/earnestlease/protocol/Reply", "interim", "()Z"⟩ : MethodName)) (z := (⟨"com/example/earnest_lease/earnestlease/protocol/Reply", "interim", "()Z"⟩ : MethodName)) hown (hw _ (List.mem_of_getElem? (i := 60) rfl)) (hw _ (List.mem_of_getElem? (i := 61) rfl)) (notFace_of_selects (args := #[]) (mvT hZ (hw _ (List.mem_of_getElem? (i := 63) rfl)))) (hw _ (List.mem_of_getElem? (i := 63) rfl)) (hw _ (List.mem_of_getElem? (i := 62) rfl)) (hw _ (List.mem_of_getElem? (i := 10) rfl)) (hw _ (List.mem_of_getElem? (i := 64) rfl)) (by decide) (by rw [hml]; rfl) (argsL := []) pd_7 rfl (a := r26) e30 E26 (rm10 l Z a0 hw [] r26 a_RELEASED a_QUEUED T26.heap n0 sz26 Fo26 S_QUEUED_31) (by decide) (by decide) (Nat.le_of_eq rfl) (by decide) (by decide) (rest := []) rfl (hb hby at_80) ?_
    intro v32 T32 L32 X32 hQ32
    obtain ⟨rfl, N32q, e32⟩ := hQ32
    have N32 := Fr.app N30 N32q
    show own_Go p e below _ T32 (mkF m 83 #[.val (.int p1), .val (.int (3 : Int32)), .val (.ref a_RELEASED), .val (.ref r26), .val (.ref b26), .val (.int (0 : Int32))] [(.int (own_iq a_RELEASED a_QUEUED))])
    refine own_by (fun t_ k_ => XS.iload X32.here hx rfl (hb hby at_83) rfl k_) ?_
    show own_Go p e below _ T32 (mkF m 85 #[.val (.int p1), .val (.int (3 : Int32)), .val (.ref a_RELEASED), .val (.ref r26), .val (.ref b26), .val (.int (0 : Int32))] [(.int (0 : Int32)), (.int (own_iq a_RELEASED a_QUEUED))])
    refine own_icmp X32 hx 92 (hb hby at_85) (by decide) (by decide) (fun hc => absurd (show (own_iq a_RELEASED a_QUEUED) = (0 : Int32) from by simp [own_iq, Fld.ne F_ordinal_RELEASED F_ordinal_QUEUED (by decide)]) (by first | exact hc | exact not_not_intro hc)) (fun _ => ?_)
    show own_Go p e below _ T32 (mkF m 88 #[.val (.int p1), .val (.int (3 : Int32)), .val (.ref a_RELEASED), .val (.ref r26), .val (.ref b26), .val (.int (0 : Int32))] [])
    refine own_by (fun t_ k_ => XS.iconst X32.here hx rfl (hb hby at_88) k_) ?_
    show own_Go p e below _ T32 (mkF m 89 #[.val (.int p1), .val (.int (3 : Int32)), .val (.ref a_RELEASED), .val (.ref r26), .val (.ref b26), .val (.int (0 : Int32))] [(.int (1 : Int32))])
    refine own_by (fun t_ k_ => XS.goto X32.here hx rfl (pc0 := 89) (pc' := 93) rfl (hb hby at_89) (by decide) (by decide) k_) ?_
    show own_Go p e below _ T32 (mkF m 93 #[.val (.int p1), .val (.int (3 : Int32)), .val (.ref a_RELEASED), .val (.ref r26), .val (.ref b26), .val (.int (0 : Int32))] [(.int (1 : Int32))])
    refine own_retZw X32 hx hS26 (Nat.le_refl _) hlk Bd.returns (by decide) (hb hby at_93) e32 (by decide) (by decide) ?_
    exact ⟨rfl, N32⟩
  · show own_Go p e below _ s₁ (mkF m 8 #[.val (.int p1), .val (.int (4 : Int32)), .unset, .unset, .unset, .unset] [])
    refine own_by (fun t_ k_ => XS.iloadN X0.here hx rfl (hb hby at_8) rfl k_) ?_
    show own_Go p e below _ s₁ (mkF m 9 #[.val (.int p1), .val (.int (4 : Int32)), .unset, .unset, .unset, .unset] [(.int (4 : Int32))])
    refine own_callS (W := 0) X0 hx hZ (y := (⟨"com/example/earnest_lease/earnestlease/protocol/ReplyOfPinLaw", "pick", "(I)Lcom/example/earnest_lease/earnestlease/protocol/Reply$Outcome;"⟩ : MethodName)) hown (hw _ (List.mem_of_getElem? (i := 1) rfl)) (hw _ (List.mem_of_getElem? (i := 2) rfl)) (hw _ (List.mem_of_getElem? (i := 3) rfl)) (hw _ (List.mem_of_getElem? (i := 4) rfl)) (by decide) (by rw [hml]; rfl) (argsL := [(.int (4 : Int32))]) pd_0 rfl (rm1 l Z a0 hw [] (4 : Int32) a_NOT_HELD a_GRANTED a_HELD a_RENEWED a_RELEASED a_NOT_HELD a_REFUSED a_NO_LEADER a_QUEUED a_TAKEN h0 n0 Z0 S_GRANTED S_HELD S_RENEWED S_RELEASED S_NOT_HELD S_REFUSED S_NO_LEADER S_QUEUED S_TAKEN (Or.inr (Or.inr (Or.inr (Or.inr (Or.inl ⟨rfl, rfl⟩)))))) (by decide) (by decide) (Nat.le_of_eq rfl) (by decide) (by decide) (rest := []) e0 rfl (hb hby at_9) ?_
    intro v33 T33 L33 X33 hQ33
    obtain ⟨rfl, N33q, e33⟩ := hQ33
    have N33 := Fr.app N0 N33q
    show own_Go p e below _ T33 (mkF m 12 #[.val (.int p1), .val (.int (4 : Int32)), .unset, .unset, .unset, .unset] [(.ref a_NOT_HELD)])
    refine own_by (fun t_ k_ => XS.astoreN X33.here hx rfl (hb hby at_12) rfl rfl (l' := #[.val (.int p1), .val (.int (4 : Int32)), .val (.ref a_NOT_HELD), .unset, .unset, .unset]) rfl k_) ?_
    show own_Go p e below _ T33 (mkF m 13 #[.val (.int p1), .val (.int (4 : Int32)), .val (.ref a_NOT_HELD), .unset, .unset, .unset] [])
    refine own_by (fun t_ k_ => XS.aloadN X33.here hx rfl (hb hby at_13) rfl rfl k_) ?_
    show own_Go p e below _ T33 (mkF m 14 #[.val (.int p1), .val (.int (4 : Int32)), .val (.ref a_NOT_HELD), .unset, .unset, .unset] [(.ref a_NOT_HELD)])
    refine own_callSH (W := 0) X33 hx hZ (y := (⟨"com/example/earnest_lease/earnestlease/protocol/Reply", "of", "(Lcom/example/earnest_lease/earnestlease/protocol/Reply$Outcome;)Lcom/example/earnest_lease/earnestlease/protocol/Reply;"⟩ : MethodName)) hown (hw _ (List.mem_of_getElem? (i := 8) rfl)) (hw _ (List.mem_of_getElem? (i := 9) rfl)) (hw _ (List.mem_of_getElem? (i := 10) rfl)) (hw _ (List.mem_of_getElem? (i := 11) rfl)) (by decide) (by rw [hml]; rfl) (argsL := [(.ref a_NOT_HELD)]) pd_1 rfl (rm2 l Z a0 hw [] a_NOT_HELD h0 n0 Z0 hEL) (by decide) (by decide) (Nat.le_of_eq rfl) (by decide) (by decide) (rest := []) e33 rfl (hb hby at_14) hS0 hk0 hEL hCH ?_
    intro v34 T34 L34 X34 hS34 hZ hown hQ34 H34
    obtain ⟨r34, b34, d34, rfl, N34q, K34, ⟨E34, Fo34, Ft34, Fr34⟩, Es34, W34, V34⟩ := hQ34
    have N34 := Fr.app N33 N34q
    have sz34 : n0 ≤ T34.heap.size := Nat.le_trans Z0 K34.1
    show own_Go p e below _ T34 (mkF m 17 #[.val (.int p1), .val (.int (4 : Int32)), .val (.ref a_NOT_HELD), .unset, .unset, .unset] [(.ref r34)])
    refine own_by (fun t_ k_ => XS.astoreN X34.here hx rfl (hb hby at_17) rfl rfl (l' := #[.val (.int p1), .val (.int (4 : Int32)), .val (.ref a_NOT_HELD), .val (.ref r34), .unset, .unset]) rfl k_) ?_
    show own_Go p e below _ T34 (mkF m 18 #[.val (.int p1), .val (.int (4 : Int32)), .val (.ref a_NOT_HELD), .val (.ref r34), .unset, .unset] [])
    refine own_by (fun t_ k_ => XS.aloadN X34.here hx rfl (hb hby at_18) rfl rfl k_) ?_
    show own_Go p e below _ T34 (mkF m 19 #[.val (.int p1), .val (.int (4 : Int32)), .val (.ref a_NOT_HELD), .val (.ref r34), .unset, .unset] [(.ref r34)])
    refine own_by (fun t_ k_ => XT.ifnonnullYes X34.here hx rfl (pc0 := 19) (pc' := 24) rfl (hb hby at_19) rfl (by decide) (by decide) k_) ?_
    show own_Go p e below _ T34 (mkF m 24 #[.val (.int p1), .val (.int (4 : Int32)), .val (.ref a_NOT_HELD), .val (.ref r34), .unset, .unset] [])
    refine own_by (fun t_ k_ => XS.aloadN X34.here hx rfl (hb hby at_24) rfl rfl k_) ?_
    show own_Go p e below _ T34 (mkF m 25 #[.val (.int p1), .val (.int (4 : Int32)), .val (.ref a_NOT_HELD), .val (.ref r34), .unset, .unset] [(.ref r34)])
    refine own_callV (W := 0) X34 hx hZ (y := (⟨"com/example/earnest_lease/earnestlease/protocol/Reply", "outcome", "()Lcom/example/earnest_lease/earnestlease/protocol/Reply$Outcome;"⟩ : MethodName)) (z := (⟨"com/example/earnest_lease/earnestlease/protocol/Reply", "outcome", "()Lcom/example/earnest_lease/earnestlease/protocol/Reply$Outcome;"⟩ : MethodName)) hown (hw _ (List.mem_of_getElem? (i := 39) rfl)) (hw _ (List.mem_of_getElem? (i := 40) rfl)) (notFace_of_selects (args := #[]) (mvT hZ (hw _ (List.mem_of_getElem? (i := 42) rfl)))) (hw _ (List.mem_of_getElem? (i := 42) rfl)) (hw _ (List.mem_of_getElem? (i := 41) rfl)) (hw _ (List.mem_of_getElem? (i := 10) rfl)) (hw _ (List.mem_of_getElem? (i := 43) rfl)) (by decide) (by rw [hml]; rfl) (argsL := []) pd_4 rfl (a := r34) rfl E34 (rm6 l Z a0 hw [] r34 a_NOT_HELD T34.heap n0 sz34 Fo34) (by decide) (by decide) (Nat.le_of_eq rfl) (by decide) (by decide) (rest := []) rfl (hb hby at_25) ?_
    intro v35 T35 L35 X35 hQ35
    obtain ⟨rfl, N35q, e35⟩ := hQ35
    have N35 := Fr.app N34 N35q
    show own_Go p e below _ T35 (mkF m 28 #[.val (.int p1), .val (.int (4 : Int32)), .val (.ref a_NOT_HELD), .val (.ref r34), .unset, .unset] [(.ref a_NOT_HELD)])
    refine own_by (fun t_ k_ => XS.aloadN X35.here hx rfl (hb hby at_28) rfl rfl k_) ?_
    show own_Go p e below _ T35 (mkF m 29 #[.val (.int p1), .val (.int (4 : Int32)), .val (.ref a_NOT_HELD), .val (.ref r34), .unset, .unset] [(.ref a_NOT_HELD), (.ref a_NOT_HELD)])
    refine own_by (fun t_ k_ => Jvm.RoadKit.acmp (g := (mkF m 29 #[.val (.int p1), .val (.int (4 : Int32)), .val (.ref a_NOT_HELD), .val (.ref r34), .unset, .unset] [(.ref a_NOT_HELD), (.ref a_NOT_HELD)])) X35 hx rfl rfl rfl (pc0 := 29) (pc' := 34) (same := true) rfl (hb hby at_29) rfl (decide_eq_true rfl) (by decide) (by decide) k_) ?_
    show own_Go p e below _ T35 (mkF m 34 #[.val (.int p1), .val (.int (4 : Int32)), .val (.ref a_NOT_HELD), .val (.ref r34), .unset, .unset] [])
    refine own_by (fun t_ k_ => XS.aloadN X35.here hx rfl (hb hby at_34) rfl rfl k_) ?_
    show own_Go p e below _ T35 (mkF m 35 #[.val (.int p1), .val (.int (4 : Int32)), .val (.ref a_NOT_HELD), .val (.ref r34), .unset, .unset] [(.ref r34)])
    refine own_callV (W := 0) X35 hx hZ (y := (⟨"com/example/earnest_lease/earnestlease/protocol/Reply", "token", "()J"⟩ : MethodName)) (z := (⟨"com/example/earnest_lease/earnestlease/protocol/Reply", "token", "()J"⟩ : MethodName)) hown (hw _ (List.mem_of_getElem? (i := 44) rfl)) (hw _ (List.mem_of_getElem? (i := 45) rfl)) (notFace_of_selects (args := #[]) (mvT hZ (hw _ (List.mem_of_getElem? (i := 47) rfl)))) (hw _ (List.mem_of_getElem? (i := 47) rfl)) (hw _ (List.mem_of_getElem? (i := 46) rfl)) (hw _ (List.mem_of_getElem? (i := 10) rfl)) (hw _ (List.mem_of_getElem? (i := 48) rfl)) (by decide) (by rw [hml]; rfl) (argsL := []) pd_5 rfl (a := r34) e35 E34 (rm7 l Z a0 hw [] r34 T34.heap n0 sz34 Ft34) (by decide) (by decide) (Nat.le_of_eq rfl) (by decide) (by decide) (rest := []) rfl (hb hby at_35) ?_
    intro v36 T36 L36 X36 hQ36
    obtain ⟨rfl, N36q, e36⟩ := hQ36
    have N36 := Fr.app N35 N36q
    show own_Go p e below _ T36 (mkF m 38 #[.val (.int p1), .val (.int (4 : Int32)), .val (.ref a_NOT_HELD), .val (.ref r34), .unset, .unset] [(.long (0 : Int64))])
    refine own_by (fun t_ k_ => XT.lconst X36.here hx rfl (hb hby at_38) k_) ?_
    show own_Go p e below _ T36 (mkF m 39 #[.val (.int p1), .val (.int (4 : Int32)), .val (.ref a_NOT_HELD), .val (.ref r34), .unset, .unset] [(.long (0 : Int64)), (.long (0 : Int64))])
    refine own_by (fun t_ k_ => XT.lcmp X36.here hx rfl (hb hby at_39) rfl k_) ?_
    show own_Go p e below _ T36 (mkF m 40 #[.val (.int p1), .val (.int (4 : Int32)), .val (.ref a_NOT_HELD), .val (.ref r34), .unset, .unset] [(.int (XT.cmpL (0 : Int64) (0 : Int64)))])
    refine own_if X36 hx 45 (hb hby at_40) (by decide) (by decide) (fun _ => ?_) (fun hc => absurd (show (XT.cmpL (0 : Int64) (0 : Int64)) = (0 : Int32) from by decide) (by first | exact hc | exact not_not_intro hc))
    show own_Go p e below _ T36 (mkF m 45 #[.val (.int p1), .val (.int (4 : Int32)), .val (.ref a_NOT_HELD), .val (.ref r34), .unset, .unset] [])
    refine own_by (fun t_ k_ => XS.aloadN X36.here hx rfl (hb hby at_45) rfl rfl k_) ?_
    show own_Go p e below _ T36 (mkF m 46 #[.val (.int p1), .val (.int (4 : Int32)), .val (.ref a_NOT_HELD), .val (.ref r34), .unset, .unset] [(.ref r34)])
    refine own_callV (W := 0) X36 hx hZ (y := (⟨"com/example/earnest_lease/earnestlease/protocol/Reply", "reason", "()Ljava/lang/String;"⟩ : MethodName)) (z := (⟨"com/example/earnest_lease/earnestlease/protocol/Reply", "reason", "()Ljava/lang/String;"⟩ : MethodName)) hown (hw _ (List.mem_of_getElem? (i := 49) rfl)) (hw _ (List.mem_of_getElem? (i := 50) rfl)) (notFace_of_selects (args := #[]) (mvT hZ (hw _ (List.mem_of_getElem? (i := 52) rfl)))) (hw _ (List.mem_of_getElem? (i := 52) rfl)) (hw _ (List.mem_of_getElem? (i := 51) rfl)) (hw _ (List.mem_of_getElem? (i := 10) rfl)) (hw _ (List.mem_of_getElem? (i := 53) rfl)) (by decide) (by rw [hml]; rfl) (argsL := []) pd_6 rfl (a := r34) e36 E34 (rm8 l Z a0 hw [] r34 b34 T34.heap n0 sz34 Fr34) (by decide) (by decide) (Nat.le_of_eq rfl) (by decide) (by decide) (rest := []) rfl (hb hby at_46) ?_
    intro v37 T37 L37 X37 hQ37
    obtain ⟨rfl, N37q, e37⟩ := hQ37
    have N37 := Fr.app N36 N37q
    show own_Go p e below _ T37 (mkF m 49 #[.val (.int p1), .val (.int (4 : Int32)), .val (.ref a_NOT_HELD), .val (.ref r34), .unset, .unset] [(.ref b34)])
    refine own_by (fun t_ k_ => XS.astore X37.here hx rfl (hb hby at_49) rfl rfl (l' := #[.val (.int p1), .val (.int (4 : Int32)), .val (.ref a_NOT_HELD), .val (.ref r34), .val (.ref b34), .unset]) rfl k_) ?_
    show own_Go p e below _ T37 (mkF m 51 #[.val (.int p1), .val (.int (4 : Int32)), .val (.ref a_NOT_HELD), .val (.ref r34), .val (.ref b34), .unset] [])
    refine own_by (fun t_ k_ => XS.aload X37.here hx rfl (hb hby at_51) rfl rfl k_) ?_
    show own_Go p e below _ T37 (mkF m 53 #[.val (.int p1), .val (.int (4 : Int32)), .val (.ref a_NOT_HELD), .val (.ref r34), .val (.ref b34), .unset] [(.ref b34)])
    refine own_by (fun t_ k_ => XS.ifnullNo X37.here hx rfl (hb hby at_53) rfl k_) ?_
    show own_Go p e below _ T37 (mkF m 56 #[.val (.int p1), .val (.int (4 : Int32)), .val (.ref a_NOT_HELD), .val (.ref r34), .val (.ref b34), .unset] [])
    refine own_by (fun t_ k_ => XS.aload X37.here hx rfl (hb hby at_56) rfl rfl k_) ?_
    show own_Go p e below _ T37 (mkF m 58 #[.val (.int p1), .val (.int (4 : Int32)), .val (.ref a_NOT_HELD), .val (.ref r34), .val (.ref b34), .unset] [(.ref b34)])
    refine own_callV (W := 0) X37 hx hZ (y := (⟨"java/lang/String", "isEmpty", "()Z"⟩ : MethodName)) (z := (⟨"java/lang/String", "isEmpty", "()Z"⟩ : MethodName)) hown (hw _ (List.mem_of_getElem? (i := 54) rfl)) (hw _ (List.mem_of_getElem? (i := 55) rfl)) (notFace_of_selects (args := #[]) (mvT hZ (hw _ (List.mem_of_getElem? (i := 57) rfl)))) (hw _ (List.mem_of_getElem? (i := 57) rfl)) (hw _ (List.mem_of_getElem? (i := 56) rfl)) (hw _ (List.mem_of_getElem? (i := 15) rfl)) (hw _ (List.mem_of_getElem? (i := 58) rfl)) (by decide) (by rw [hml]; rfl) (argsL := []) pd_7 rfl (a := b34) e37 Es34 (rm9 l Z a0 hw [] b34 d34 T34.heap n0 sz34 W34 V34) (by decide) (by decide) (Nat.le_of_eq rfl) (by decide) (by decide) (rest := []) rfl (hb hby at_58) ?_
    intro v38 T38 L38 X38 hQ38
    obtain ⟨rfl, N38q, e38⟩ := hQ38
    have N38 := Fr.app N37 N38q
    show own_Go p e below _ T38 (mkF m 61 #[.val (.int p1), .val (.int (4 : Int32)), .val (.ref a_NOT_HELD), .val (.ref r34), .val (.ref b34), .unset] [(.int (1 : Int32))])
    refine own_if X38 hx 66 (hb hby at_61) (by decide) (by decide) (fun _ => ?_) (fun hc => absurd (show ¬ (1 : Int32) = (0 : Int32) from by decide) (by first | exact hc | exact not_not_intro hc))
    show own_Go p e below _ T38 (mkF m 66 #[.val (.int p1), .val (.int (4 : Int32)), .val (.ref a_NOT_HELD), .val (.ref r34), .val (.ref b34), .unset] [])
    refine own_by (fun t_ k_ => XS.iloadN X38.here hx rfl (hb hby at_66) rfl k_) ?_
    show own_Go p e below _ T38 (mkF m 67 #[.val (.int p1), .val (.int (4 : Int32)), .val (.ref a_NOT_HELD), .val (.ref r34), .val (.ref b34), .unset] [(.int (4 : Int32))])
    refine own_by (fun t_ k_ => XS.bipush X38.here hx rfl (hb hby at_67) k_) ?_
    show own_Go p e below _ T38 (mkF m 69 #[.val (.int p1), .val (.int (4 : Int32)), .val (.ref a_NOT_HELD), .val (.ref r34), .val (.ref b34), .unset] [(.int (7 : Int32)), (.int (4 : Int32))])
    refine own_icmp X38 hx 76 (hb hby at_69) (by decide) (by decide) (fun _ => ?_) (fun hc => absurd (show ¬ (4 : Int32) = (7 : Int32) from by decide) (by first | exact hc | exact not_not_intro hc))
    show own_Go p e below _ T38 (mkF m 76 #[.val (.int p1), .val (.int (4 : Int32)), .val (.ref a_NOT_HELD), .val (.ref r34), .val (.ref b34), .unset] [])
    refine own_by (fun t_ k_ => XS.iconst X38.here hx rfl (hb hby at_76) k_) ?_
    show own_Go p e below _ T38 (mkF m 77 #[.val (.int p1), .val (.int (4 : Int32)), .val (.ref a_NOT_HELD), .val (.ref r34), .val (.ref b34), .unset] [(.int (0 : Int32))])
    refine own_by (fun t_ k_ => XS.istore X38.here hx rfl (hb hby at_77) rfl (l' := #[.val (.int p1), .val (.int (4 : Int32)), .val (.ref a_NOT_HELD), .val (.ref r34), .val (.ref b34), .val (.int (0 : Int32))]) rfl k_) ?_
    show own_Go p e below _ T38 (mkF m 79 #[.val (.int p1), .val (.int (4 : Int32)), .val (.ref a_NOT_HELD), .val (.ref r34), .val (.ref b34), .val (.int (0 : Int32))] [])
    refine own_by (fun t_ k_ => XS.aloadN X38.here hx rfl (hb hby at_79) rfl rfl k_) ?_
    show own_Go p e below _ T38 (mkF m 80 #[.val (.int p1), .val (.int (4 : Int32)), .val (.ref a_NOT_HELD), .val (.ref r34), .val (.ref b34), .val (.int (0 : Int32))] [(.ref r34)])
    have S_QUEUED_39 : Sta Z T34.heap "com/example/earnest_lease/earnestlease/protocol/Reply$Outcome" "QUEUED" "Lcom/example/earnest_lease/earnestlease/protocol/Reply$Outcome;" (.ref a_QUEUED) := (own_Sta_keep S_QUEUED K34 ns0)
    refine own_callV (W := 0) X38 hx hZ (y := (⟨"com/example/earnest_lease/earnestlease/protocol/Reply", "interim", "()Z"⟩ : MethodName)) (z := (⟨"com/example/earnest_lease/earnestlease/protocol/Reply", "interim", "()Z"⟩ : MethodName)) hown (hw _ (List.mem_of_getElem? (i := 60) rfl)) (hw _ (List.mem_of_getElem? (i := 61) rfl)) (notFace_of_selects (args := #[]) (mvT hZ (hw _ (List.mem_of_getElem? (i := 63) rfl)))) (hw _ (List.mem_of_getElem? (i := 63) rfl)) (hw _ (List.mem_of_getElem? (i := 62) rfl)) (hw _ (List.mem_of_getElem? (i := 10) rfl)) (hw _ (List.mem_of_getElem? (i := 64) rfl)) (by decide) (by rw [hml]; rfl) (argsL := []) pd_7 rfl (a := r34) e38 E34 (rm10 l Z a0 hw [] r34 a_NOT_HELD a_QUEUED T34.heap n0 sz34 Fo34 S_QUEUED_39) (by decide) (by decide) (Nat.le_of_eq rfl) (by decide) (by decide) (rest := []) rfl (hb hby at_80) ?_
    intro v40 T40 L40 X40 hQ40
    obtain ⟨rfl, N40q, e40⟩ := hQ40
    have N40 := Fr.app N38 N40q
    show own_Go p e below _ T40 (mkF m 83 #[.val (.int p1), .val (.int (4 : Int32)), .val (.ref a_NOT_HELD), .val (.ref r34), .val (.ref b34), .val (.int (0 : Int32))] [(.int (own_iq a_NOT_HELD a_QUEUED))])
    refine own_by (fun t_ k_ => XS.iload X40.here hx rfl (hb hby at_83) rfl k_) ?_
    show own_Go p e below _ T40 (mkF m 85 #[.val (.int p1), .val (.int (4 : Int32)), .val (.ref a_NOT_HELD), .val (.ref r34), .val (.ref b34), .val (.int (0 : Int32))] [(.int (0 : Int32)), (.int (own_iq a_NOT_HELD a_QUEUED))])
    refine own_icmp X40 hx 92 (hb hby at_85) (by decide) (by decide) (fun hc => absurd (show (own_iq a_NOT_HELD a_QUEUED) = (0 : Int32) from by simp [own_iq, Fld.ne F_ordinal_NOT_HELD F_ordinal_QUEUED (by decide)]) (by first | exact hc | exact not_not_intro hc)) (fun _ => ?_)
    show own_Go p e below _ T40 (mkF m 88 #[.val (.int p1), .val (.int (4 : Int32)), .val (.ref a_NOT_HELD), .val (.ref r34), .val (.ref b34), .val (.int (0 : Int32))] [])
    refine own_by (fun t_ k_ => XS.iconst X40.here hx rfl (hb hby at_88) k_) ?_
    show own_Go p e below _ T40 (mkF m 89 #[.val (.int p1), .val (.int (4 : Int32)), .val (.ref a_NOT_HELD), .val (.ref r34), .val (.ref b34), .val (.int (0 : Int32))] [(.int (1 : Int32))])
    refine own_by (fun t_ k_ => XS.goto X40.here hx rfl (pc0 := 89) (pc' := 93) rfl (hb hby at_89) (by decide) (by decide) k_) ?_
    show own_Go p e below _ T40 (mkF m 93 #[.val (.int p1), .val (.int (4 : Int32)), .val (.ref a_NOT_HELD), .val (.ref r34), .val (.ref b34), .val (.int (0 : Int32))] [(.int (1 : Int32))])
    refine own_retZw X40 hx hS34 (Nat.le_refl _) hlk Bd.returns (by decide) (hb hby at_93) e40 (by decide) (by decide) ?_
    exact ⟨rfl, N40⟩
  · show own_Go p e below _ s₁ (mkF m 8 #[.val (.int p1), .val (.int (5 : Int32)), .unset, .unset, .unset, .unset] [])
    refine own_by (fun t_ k_ => XS.iloadN X0.here hx rfl (hb hby at_8) rfl k_) ?_
    show own_Go p e below _ s₁ (mkF m 9 #[.val (.int p1), .val (.int (5 : Int32)), .unset, .unset, .unset, .unset] [(.int (5 : Int32))])
    refine own_callS (W := 0) X0 hx hZ (y := (⟨"com/example/earnest_lease/earnestlease/protocol/ReplyOfPinLaw", "pick", "(I)Lcom/example/earnest_lease/earnestlease/protocol/Reply$Outcome;"⟩ : MethodName)) hown (hw _ (List.mem_of_getElem? (i := 1) rfl)) (hw _ (List.mem_of_getElem? (i := 2) rfl)) (hw _ (List.mem_of_getElem? (i := 3) rfl)) (hw _ (List.mem_of_getElem? (i := 4) rfl)) (by decide) (by rw [hml]; rfl) (argsL := [(.int (5 : Int32))]) pd_0 rfl (rm1 l Z a0 hw [] (5 : Int32) a_REFUSED a_GRANTED a_HELD a_RENEWED a_RELEASED a_NOT_HELD a_REFUSED a_NO_LEADER a_QUEUED a_TAKEN h0 n0 Z0 S_GRANTED S_HELD S_RENEWED S_RELEASED S_NOT_HELD S_REFUSED S_NO_LEADER S_QUEUED S_TAKEN (Or.inr (Or.inr (Or.inr (Or.inr (Or.inr (Or.inl ⟨rfl, rfl⟩))))))) (by decide) (by decide) (Nat.le_of_eq rfl) (by decide) (by decide) (rest := []) e0 rfl (hb hby at_9) ?_
    intro v41 T41 L41 X41 hQ41
    obtain ⟨rfl, N41q, e41⟩ := hQ41
    have N41 := Fr.app N0 N41q
    show own_Go p e below _ T41 (mkF m 12 #[.val (.int p1), .val (.int (5 : Int32)), .unset, .unset, .unset, .unset] [(.ref a_REFUSED)])
    refine own_by (fun t_ k_ => XS.astoreN X41.here hx rfl (hb hby at_12) rfl rfl (l' := #[.val (.int p1), .val (.int (5 : Int32)), .val (.ref a_REFUSED), .unset, .unset, .unset]) rfl k_) ?_
    show own_Go p e below _ T41 (mkF m 13 #[.val (.int p1), .val (.int (5 : Int32)), .val (.ref a_REFUSED), .unset, .unset, .unset] [])
    refine own_by (fun t_ k_ => XS.aloadN X41.here hx rfl (hb hby at_13) rfl rfl k_) ?_
    show own_Go p e below _ T41 (mkF m 14 #[.val (.int p1), .val (.int (5 : Int32)), .val (.ref a_REFUSED), .unset, .unset, .unset] [(.ref a_REFUSED)])
    refine own_callSH (W := 0) X41 hx hZ (y := (⟨"com/example/earnest_lease/earnestlease/protocol/Reply", "of", "(Lcom/example/earnest_lease/earnestlease/protocol/Reply$Outcome;)Lcom/example/earnest_lease/earnestlease/protocol/Reply;"⟩ : MethodName)) hown (hw _ (List.mem_of_getElem? (i := 8) rfl)) (hw _ (List.mem_of_getElem? (i := 9) rfl)) (hw _ (List.mem_of_getElem? (i := 10) rfl)) (hw _ (List.mem_of_getElem? (i := 11) rfl)) (by decide) (by rw [hml]; rfl) (argsL := [(.ref a_REFUSED)]) pd_1 rfl (rm2 l Z a0 hw [] a_REFUSED h0 n0 Z0 hEL) (by decide) (by decide) (Nat.le_of_eq rfl) (by decide) (by decide) (rest := []) e41 rfl (hb hby at_14) hS0 hk0 hEL hCH ?_
    intro v42 T42 L42 X42 hS42 hZ hown hQ42 H42
    obtain ⟨r42, b42, d42, rfl, N42q, K42, ⟨E42, Fo42, Ft42, Fr42⟩, Es42, W42, V42⟩ := hQ42
    have N42 := Fr.app N41 N42q
    have sz42 : n0 ≤ T42.heap.size := Nat.le_trans Z0 K42.1
    show own_Go p e below _ T42 (mkF m 17 #[.val (.int p1), .val (.int (5 : Int32)), .val (.ref a_REFUSED), .unset, .unset, .unset] [(.ref r42)])
    refine own_by (fun t_ k_ => XS.astoreN X42.here hx rfl (hb hby at_17) rfl rfl (l' := #[.val (.int p1), .val (.int (5 : Int32)), .val (.ref a_REFUSED), .val (.ref r42), .unset, .unset]) rfl k_) ?_
    show own_Go p e below _ T42 (mkF m 18 #[.val (.int p1), .val (.int (5 : Int32)), .val (.ref a_REFUSED), .val (.ref r42), .unset, .unset] [])
    refine own_by (fun t_ k_ => XS.aloadN X42.here hx rfl (hb hby at_18) rfl rfl k_) ?_
    show own_Go p e below _ T42 (mkF m 19 #[.val (.int p1), .val (.int (5 : Int32)), .val (.ref a_REFUSED), .val (.ref r42), .unset, .unset] [(.ref r42)])
    refine own_by (fun t_ k_ => XT.ifnonnullYes X42.here hx rfl (pc0 := 19) (pc' := 24) rfl (hb hby at_19) rfl (by decide) (by decide) k_) ?_
    show own_Go p e below _ T42 (mkF m 24 #[.val (.int p1), .val (.int (5 : Int32)), .val (.ref a_REFUSED), .val (.ref r42), .unset, .unset] [])
    refine own_by (fun t_ k_ => XS.aloadN X42.here hx rfl (hb hby at_24) rfl rfl k_) ?_
    show own_Go p e below _ T42 (mkF m 25 #[.val (.int p1), .val (.int (5 : Int32)), .val (.ref a_REFUSED), .val (.ref r42), .unset, .unset] [(.ref r42)])
    refine own_callV (W := 0) X42 hx hZ (y := (⟨"com/example/earnest_lease/earnestlease/protocol/Reply", "outcome", "()Lcom/example/earnest_lease/earnestlease/protocol/Reply$Outcome;"⟩ : MethodName)) (z := (⟨"com/example/earnest_lease/earnestlease/protocol/Reply", "outcome", "()Lcom/example/earnest_lease/earnestlease/protocol/Reply$Outcome;"⟩ : MethodName)) hown (hw _ (List.mem_of_getElem? (i := 39) rfl)) (hw _ (List.mem_of_getElem? (i := 40) rfl)) (notFace_of_selects (args := #[]) (mvT hZ (hw _ (List.mem_of_getElem? (i := 42) rfl)))) (hw _ (List.mem_of_getElem? (i := 42) rfl)) (hw _ (List.mem_of_getElem? (i := 41) rfl)) (hw _ (List.mem_of_getElem? (i := 10) rfl)) (hw _ (List.mem_of_getElem? (i := 43) rfl)) (by decide) (by rw [hml]; rfl) (argsL := []) pd_4 rfl (a := r42) rfl E42 (rm6 l Z a0 hw [] r42 a_REFUSED T42.heap n0 sz42 Fo42) (by decide) (by decide) (Nat.le_of_eq rfl) (by decide) (by decide) (rest := []) rfl (hb hby at_25) ?_
    intro v43 T43 L43 X43 hQ43
    obtain ⟨rfl, N43q, e43⟩ := hQ43
    have N43 := Fr.app N42 N43q
    show own_Go p e below _ T43 (mkF m 28 #[.val (.int p1), .val (.int (5 : Int32)), .val (.ref a_REFUSED), .val (.ref r42), .unset, .unset] [(.ref a_REFUSED)])
    refine own_by (fun t_ k_ => XS.aloadN X43.here hx rfl (hb hby at_28) rfl rfl k_) ?_
    show own_Go p e below _ T43 (mkF m 29 #[.val (.int p1), .val (.int (5 : Int32)), .val (.ref a_REFUSED), .val (.ref r42), .unset, .unset] [(.ref a_REFUSED), (.ref a_REFUSED)])
    refine own_by (fun t_ k_ => Jvm.RoadKit.acmp (g := (mkF m 29 #[.val (.int p1), .val (.int (5 : Int32)), .val (.ref a_REFUSED), .val (.ref r42), .unset, .unset] [(.ref a_REFUSED), (.ref a_REFUSED)])) X43 hx rfl rfl rfl (pc0 := 29) (pc' := 34) (same := true) rfl (hb hby at_29) rfl (decide_eq_true rfl) (by decide) (by decide) k_) ?_
    show own_Go p e below _ T43 (mkF m 34 #[.val (.int p1), .val (.int (5 : Int32)), .val (.ref a_REFUSED), .val (.ref r42), .unset, .unset] [])
    refine own_by (fun t_ k_ => XS.aloadN X43.here hx rfl (hb hby at_34) rfl rfl k_) ?_
    show own_Go p e below _ T43 (mkF m 35 #[.val (.int p1), .val (.int (5 : Int32)), .val (.ref a_REFUSED), .val (.ref r42), .unset, .unset] [(.ref r42)])
    refine own_callV (W := 0) X43 hx hZ (y := (⟨"com/example/earnest_lease/earnestlease/protocol/Reply", "token", "()J"⟩ : MethodName)) (z := (⟨"com/example/earnest_lease/earnestlease/protocol/Reply", "token", "()J"⟩ : MethodName)) hown (hw _ (List.mem_of_getElem? (i := 44) rfl)) (hw _ (List.mem_of_getElem? (i := 45) rfl)) (notFace_of_selects (args := #[]) (mvT hZ (hw _ (List.mem_of_getElem? (i := 47) rfl)))) (hw _ (List.mem_of_getElem? (i := 47) rfl)) (hw _ (List.mem_of_getElem? (i := 46) rfl)) (hw _ (List.mem_of_getElem? (i := 10) rfl)) (hw _ (List.mem_of_getElem? (i := 48) rfl)) (by decide) (by rw [hml]; rfl) (argsL := []) pd_5 rfl (a := r42) e43 E42 (rm7 l Z a0 hw [] r42 T42.heap n0 sz42 Ft42) (by decide) (by decide) (Nat.le_of_eq rfl) (by decide) (by decide) (rest := []) rfl (hb hby at_35) ?_
    intro v44 T44 L44 X44 hQ44
    obtain ⟨rfl, N44q, e44⟩ := hQ44
    have N44 := Fr.app N43 N44q
    show own_Go p e below _ T44 (mkF m 38 #[.val (.int p1), .val (.int (5 : Int32)), .val (.ref a_REFUSED), .val (.ref r42), .unset, .unset] [(.long (0 : Int64))])
    refine own_by (fun t_ k_ => XT.lconst X44.here hx rfl (hb hby at_38) k_) ?_
    show own_Go p e below _ T44 (mkF m 39 #[.val (.int p1), .val (.int (5 : Int32)), .val (.ref a_REFUSED), .val (.ref r42), .unset, .unset] [(.long (0 : Int64)), (.long (0 : Int64))])
    refine own_by (fun t_ k_ => XT.lcmp X44.here hx rfl (hb hby at_39) rfl k_) ?_
    show own_Go p e below _ T44 (mkF m 40 #[.val (.int p1), .val (.int (5 : Int32)), .val (.ref a_REFUSED), .val (.ref r42), .unset, .unset] [(.int (XT.cmpL (0 : Int64) (0 : Int64)))])
    refine own_if X44 hx 45 (hb hby at_40) (by decide) (by decide) (fun _ => ?_) (fun hc => absurd (show (XT.cmpL (0 : Int64) (0 : Int64)) = (0 : Int32) from by decide) (by first | exact hc | exact not_not_intro hc))
    show own_Go p e below _ T44 (mkF m 45 #[.val (.int p1), .val (.int (5 : Int32)), .val (.ref a_REFUSED), .val (.ref r42), .unset, .unset] [])
    refine own_by (fun t_ k_ => XS.aloadN X44.here hx rfl (hb hby at_45) rfl rfl k_) ?_
    show own_Go p e below _ T44 (mkF m 46 #[.val (.int p1), .val (.int (5 : Int32)), .val (.ref a_REFUSED), .val (.ref r42), .unset, .unset] [(.ref r42)])
    refine own_callV (W := 0) X44 hx hZ (y := (⟨"com/example/earnest_lease/earnestlease/protocol/Reply", "reason", "()Ljava/lang/String;"⟩ : MethodName)) (z := (⟨"com/example/earnest_lease/earnestlease/protocol/Reply", "reason", "()Ljava/lang/String;"⟩ : MethodName)) hown (hw _ (List.mem_of_getElem? (i := 49) rfl)) (hw _ (List.mem_of_getElem? (i := 50) rfl)) (notFace_of_selects (args := #[]) (mvT hZ (hw _ (List.mem_of_getElem? (i := 52) rfl)))) (hw _ (List.mem_of_getElem? (i := 52) rfl)) (hw _ (List.mem_of_getElem? (i := 51) rfl)) (hw _ (List.mem_of_getElem? (i := 10) rfl)) (hw _ (List.mem_of_getElem? (i := 53) rfl)) (by decide) (by rw [hml]; rfl) (argsL := []) pd_6 rfl (a := r42) e44 E42 (rm8 l Z a0 hw [] r42 b42 T42.heap n0 sz42 Fr42) (by decide) (by decide) (Nat.le_of_eq rfl) (by decide) (by decide) (rest := []) rfl (hb hby at_46) ?_
    intro v45 T45 L45 X45 hQ45
    obtain ⟨rfl, N45q, e45⟩ := hQ45
    have N45 := Fr.app N44 N45q
    show own_Go p e below _ T45 (mkF m 49 #[.val (.int p1), .val (.int (5 : Int32)), .val (.ref a_REFUSED), .val (.ref r42), .unset, .unset] [(.ref b42)])
    refine own_by (fun t_ k_ => XS.astore X45.here hx rfl (hb hby at_49) rfl rfl (l' := #[.val (.int p1), .val (.int (5 : Int32)), .val (.ref a_REFUSED), .val (.ref r42), .val (.ref b42), .unset]) rfl k_) ?_
    show own_Go p e below _ T45 (mkF m 51 #[.val (.int p1), .val (.int (5 : Int32)), .val (.ref a_REFUSED), .val (.ref r42), .val (.ref b42), .unset] [])
    refine own_by (fun t_ k_ => XS.aload X45.here hx rfl (hb hby at_51) rfl rfl k_) ?_
    show own_Go p e below _ T45 (mkF m 53 #[.val (.int p1), .val (.int (5 : Int32)), .val (.ref a_REFUSED), .val (.ref r42), .val (.ref b42), .unset] [(.ref b42)])
    refine own_by (fun t_ k_ => XS.ifnullNo X45.here hx rfl (hb hby at_53) rfl k_) ?_
    show own_Go p e below _ T45 (mkF m 56 #[.val (.int p1), .val (.int (5 : Int32)), .val (.ref a_REFUSED), .val (.ref r42), .val (.ref b42), .unset] [])
    refine own_by (fun t_ k_ => XS.aload X45.here hx rfl (hb hby at_56) rfl rfl k_) ?_
    show own_Go p e below _ T45 (mkF m 58 #[.val (.int p1), .val (.int (5 : Int32)), .val (.ref a_REFUSED), .val (.ref r42), .val (.ref b42), .unset] [(.ref b42)])
    refine own_callV (W := 0) X45 hx hZ (y := (⟨"java/lang/String", "isEmpty", "()Z"⟩ : MethodName)) (z := (⟨"java/lang/String", "isEmpty", "()Z"⟩ : MethodName)) hown (hw _ (List.mem_of_getElem? (i := 54) rfl)) (hw _ (List.mem_of_getElem? (i := 55) rfl)) (notFace_of_selects (args := #[]) (mvT hZ (hw _ (List.mem_of_getElem? (i := 57) rfl)))) (hw _ (List.mem_of_getElem? (i := 57) rfl)) (hw _ (List.mem_of_getElem? (i := 56) rfl)) (hw _ (List.mem_of_getElem? (i := 15) rfl)) (hw _ (List.mem_of_getElem? (i := 58) rfl)) (by decide) (by rw [hml]; rfl) (argsL := []) pd_7 rfl (a := b42) e45 Es42 (rm9 l Z a0 hw [] b42 d42 T42.heap n0 sz42 W42 V42) (by decide) (by decide) (Nat.le_of_eq rfl) (by decide) (by decide) (rest := []) rfl (hb hby at_58) ?_
    intro v46 T46 L46 X46 hQ46
    obtain ⟨rfl, N46q, e46⟩ := hQ46
    have N46 := Fr.app N45 N46q
    show own_Go p e below _ T46 (mkF m 61 #[.val (.int p1), .val (.int (5 : Int32)), .val (.ref a_REFUSED), .val (.ref r42), .val (.ref b42), .unset] [(.int (1 : Int32))])
    refine own_if X46 hx 66 (hb hby at_61) (by decide) (by decide) (fun _ => ?_) (fun hc => absurd (show ¬ (1 : Int32) = (0 : Int32) from by decide) (by first | exact hc | exact not_not_intro hc))
    show own_Go p e below _ T46 (mkF m 66 #[.val (.int p1), .val (.int (5 : Int32)), .val (.ref a_REFUSED), .val (.ref r42), .val (.ref b42), .unset] [])
    refine own_by (fun t_ k_ => XS.iloadN X46.here hx rfl (hb hby at_66) rfl k_) ?_
    show own_Go p e below _ T46 (mkF m 67 #[.val (.int p1), .val (.int (5 : Int32)), .val (.ref a_REFUSED), .val (.ref r42), .val (.ref b42), .unset] [(.int (5 : Int32))])
    refine own_by (fun t_ k_ => XS.bipush X46.here hx rfl (hb hby at_67) k_) ?_
    show own_Go p e below _ T46 (mkF m 69 #[.val (.int p1), .val (.int (5 : Int32)), .val (.ref a_REFUSED), .val (.ref r42), .val (.ref b42), .unset] [(.int (7 : Int32)), (.int (5 : Int32))])
    refine own_icmp X46 hx 76 (hb hby at_69) (by decide) (by decide) (fun _ => ?_) (fun hc => absurd (show ¬ (5 : Int32) = (7 : Int32) from by decide) (by first | exact hc | exact not_not_intro hc))
    show own_Go p e below _ T46 (mkF m 76 #[.val (.int p1), .val (.int (5 : Int32)), .val (.ref a_REFUSED), .val (.ref r42), .val (.ref b42), .unset] [])
    refine own_by (fun t_ k_ => XS.iconst X46.here hx rfl (hb hby at_76) k_) ?_
    show own_Go p e below _ T46 (mkF m 77 #[.val (.int p1), .val (.int (5 : Int32)), .val (.ref a_REFUSED), .val (.ref r42), .val (.ref b42), .unset] [(.int (0 : Int32))])
    refine own_by (fun t_ k_ => XS.istore X46.here hx rfl (hb hby at_77) rfl (l' := #[.val (.int p1), .val (.int (5 : Int32)), .val (.ref a_REFUSED), .val (.ref r42), .val (.ref b42), .val (.int (0 : Int32))]) rfl k_) ?_
    show own_Go p e below _ T46 (mkF m 79 #[.val (.int p1), .val (.int (5 : Int32)), .val (.ref a_REFUSED), .val (.ref r42), .val (.ref b42), .val (.int (0 : Int32))] [])
    refine own_by (fun t_ k_ => XS.aloadN X46.here hx rfl (hb hby at_79) rfl rfl k_) ?_
    show own_Go p e below _ T46 (mkF m 80 #[.val (.int p1), .val (.int (5 : Int32)), .val (.ref a_REFUSED), .val (.ref r42), .val (.ref b42), .val (.int (0 : Int32))] [(.ref r42)])
    have S_QUEUED_47 : Sta Z T42.heap "com/example/earnest_lease/earnestlease/protocol/Reply$Outcome" "QUEUED" "Lcom/example/earnest_lease/earnestlease/protocol/Reply$Outcome;" (.ref a_QUEUED) := (own_Sta_keep S_QUEUED K42 ns0)
    refine own_callV (W := 0) X46 hx hZ (y := (⟨"com/example/earnest_lease/earnestlease/protocol/Reply", "interim", "()Z"⟩ : MethodName)) (z := (⟨"com/example/earnest_lease/earnestlease/protocol/Reply", "interim", "()Z"⟩ : MethodName)) hown (hw _ (List.mem_of_getElem? (i := 60) rfl)) (hw _ (List.mem_of_getElem? (i := 61) rfl)) (notFace_of_selects (args := #[]) (mvT hZ (hw _ (List.mem_of_getElem? (i := 63) rfl)))) (hw _ (List.mem_of_getElem? (i := 63) rfl)) (hw _ (List.mem_of_getElem? (i := 62) rfl)) (hw _ (List.mem_of_getElem? (i := 10) rfl)) (hw _ (List.mem_of_getElem? (i := 64) rfl)) (by decide) (by rw [hml]; rfl) (argsL := []) pd_7 rfl (a := r42) e46 E42 (rm10 l Z a0 hw [] r42 a_REFUSED a_QUEUED T42.heap n0 sz42 Fo42 S_QUEUED_47) (by decide) (by decide) (Nat.le_of_eq rfl) (by decide) (by decide) (rest := []) rfl (hb hby at_80) ?_
    intro v48 T48 L48 X48 hQ48
    obtain ⟨rfl, N48q, e48⟩ := hQ48
    have N48 := Fr.app N46 N48q
    show own_Go p e below _ T48 (mkF m 83 #[.val (.int p1), .val (.int (5 : Int32)), .val (.ref a_REFUSED), .val (.ref r42), .val (.ref b42), .val (.int (0 : Int32))] [(.int (own_iq a_REFUSED a_QUEUED))])
    refine own_by (fun t_ k_ => XS.iload X48.here hx rfl (hb hby at_83) rfl k_) ?_
    show own_Go p e below _ T48 (mkF m 85 #[.val (.int p1), .val (.int (5 : Int32)), .val (.ref a_REFUSED), .val (.ref r42), .val (.ref b42), .val (.int (0 : Int32))] [(.int (0 : Int32)), (.int (own_iq a_REFUSED a_QUEUED))])
    refine own_icmp X48 hx 92 (hb hby at_85) (by decide) (by decide) (fun hc => absurd (show (own_iq a_REFUSED a_QUEUED) = (0 : Int32) from by simp [own_iq, Fld.ne F_ordinal_REFUSED F_ordinal_QUEUED (by decide)]) (by first | exact hc | exact not_not_intro hc)) (fun _ => ?_)
    show own_Go p e below _ T48 (mkF m 88 #[.val (.int p1), .val (.int (5 : Int32)), .val (.ref a_REFUSED), .val (.ref r42), .val (.ref b42), .val (.int (0 : Int32))] [])
    refine own_by (fun t_ k_ => XS.iconst X48.here hx rfl (hb hby at_88) k_) ?_
    show own_Go p e below _ T48 (mkF m 89 #[.val (.int p1), .val (.int (5 : Int32)), .val (.ref a_REFUSED), .val (.ref r42), .val (.ref b42), .val (.int (0 : Int32))] [(.int (1 : Int32))])
    refine own_by (fun t_ k_ => XS.goto X48.here hx rfl (pc0 := 89) (pc' := 93) rfl (hb hby at_89) (by decide) (by decide) k_) ?_
    show own_Go p e below _ T48 (mkF m 93 #[.val (.int p1), .val (.int (5 : Int32)), .val (.ref a_REFUSED), .val (.ref r42), .val (.ref b42), .val (.int (0 : Int32))] [(.int (1 : Int32))])
    refine own_retZw X48 hx hS42 (Nat.le_refl _) hlk Bd.returns (by decide) (hb hby at_93) e48 (by decide) (by decide) ?_
    exact ⟨rfl, N48⟩
  · show own_Go p e below _ s₁ (mkF m 8 #[.val (.int p1), .val (.int (6 : Int32)), .unset, .unset, .unset, .unset] [])
    refine own_by (fun t_ k_ => XS.iloadN X0.here hx rfl (hb hby at_8) rfl k_) ?_
    show own_Go p e below _ s₁ (mkF m 9 #[.val (.int p1), .val (.int (6 : Int32)), .unset, .unset, .unset, .unset] [(.int (6 : Int32))])
    refine own_callS (W := 0) X0 hx hZ (y := (⟨"com/example/earnest_lease/earnestlease/protocol/ReplyOfPinLaw", "pick", "(I)Lcom/example/earnest_lease/earnestlease/protocol/Reply$Outcome;"⟩ : MethodName)) hown (hw _ (List.mem_of_getElem? (i := 1) rfl)) (hw _ (List.mem_of_getElem? (i := 2) rfl)) (hw _ (List.mem_of_getElem? (i := 3) rfl)) (hw _ (List.mem_of_getElem? (i := 4) rfl)) (by decide) (by rw [hml]; rfl) (argsL := [(.int (6 : Int32))]) pd_0 rfl (rm1 l Z a0 hw [] (6 : Int32) a_NO_LEADER a_GRANTED a_HELD a_RENEWED a_RELEASED a_NOT_HELD a_REFUSED a_NO_LEADER a_QUEUED a_TAKEN h0 n0 Z0 S_GRANTED S_HELD S_RENEWED S_RELEASED S_NOT_HELD S_REFUSED S_NO_LEADER S_QUEUED S_TAKEN (Or.inr (Or.inr (Or.inr (Or.inr (Or.inr (Or.inr (Or.inl ⟨rfl, rfl⟩)))))))) (by decide) (by decide) (Nat.le_of_eq rfl) (by decide) (by decide) (rest := []) e0 rfl (hb hby at_9) ?_
    intro v49 T49 L49 X49 hQ49
    obtain ⟨rfl, N49q, e49⟩ := hQ49
    have N49 := Fr.app N0 N49q
    show own_Go p e below _ T49 (mkF m 12 #[.val (.int p1), .val (.int (6 : Int32)), .unset, .unset, .unset, .unset] [(.ref a_NO_LEADER)])
    refine own_by (fun t_ k_ => XS.astoreN X49.here hx rfl (hb hby at_12) rfl rfl (l' := #[.val (.int p1), .val (.int (6 : Int32)), .val (.ref a_NO_LEADER), .unset, .unset, .unset]) rfl k_) ?_
    show own_Go p e below _ T49 (mkF m 13 #[.val (.int p1), .val (.int (6 : Int32)), .val (.ref a_NO_LEADER), .unset, .unset, .unset] [])
    refine own_by (fun t_ k_ => XS.aloadN X49.here hx rfl (hb hby at_13) rfl rfl k_) ?_
    show own_Go p e below _ T49 (mkF m 14 #[.val (.int p1), .val (.int (6 : Int32)), .val (.ref a_NO_LEADER), .unset, .unset, .unset] [(.ref a_NO_LEADER)])
    refine own_callSH (W := 0) X49 hx hZ (y := (⟨"com/example/earnest_lease/earnestlease/protocol/Reply", "of", "(Lcom/example/earnest_lease/earnestlease/protocol/Reply$Outcome;)Lcom/example/earnest_lease/earnestlease/protocol/Reply;"⟩ : MethodName)) hown (hw _ (List.mem_of_getElem? (i := 8) rfl)) (hw _ (List.mem_of_getElem? (i := 9) rfl)) (hw _ (List.mem_of_getElem? (i := 10) rfl)) (hw _ (List.mem_of_getElem? (i := 11) rfl)) (by decide) (by rw [hml]; rfl) (argsL := [(.ref a_NO_LEADER)]) pd_1 rfl (rm2 l Z a0 hw [] a_NO_LEADER h0 n0 Z0 hEL) (by decide) (by decide) (Nat.le_of_eq rfl) (by decide) (by decide) (rest := []) e49 rfl (hb hby at_14) hS0 hk0 hEL hCH ?_
    intro v50 T50 L50 X50 hS50 hZ hown hQ50 H50
    obtain ⟨r50, b50, d50, rfl, N50q, K50, ⟨E50, Fo50, Ft50, Fr50⟩, Es50, W50, V50⟩ := hQ50
    have N50 := Fr.app N49 N50q
    have sz50 : n0 ≤ T50.heap.size := Nat.le_trans Z0 K50.1
    show own_Go p e below _ T50 (mkF m 17 #[.val (.int p1), .val (.int (6 : Int32)), .val (.ref a_NO_LEADER), .unset, .unset, .unset] [(.ref r50)])
    refine own_by (fun t_ k_ => XS.astoreN X50.here hx rfl (hb hby at_17) rfl rfl (l' := #[.val (.int p1), .val (.int (6 : Int32)), .val (.ref a_NO_LEADER), .val (.ref r50), .unset, .unset]) rfl k_) ?_
    show own_Go p e below _ T50 (mkF m 18 #[.val (.int p1), .val (.int (6 : Int32)), .val (.ref a_NO_LEADER), .val (.ref r50), .unset, .unset] [])
    refine own_by (fun t_ k_ => XS.aloadN X50.here hx rfl (hb hby at_18) rfl rfl k_) ?_
    show own_Go p e below _ T50 (mkF m 19 #[.val (.int p1), .val (.int (6 : Int32)), .val (.ref a_NO_LEADER), .val (.ref r50), .unset, .unset] [(.ref r50)])
    refine own_by (fun t_ k_ => XT.ifnonnullYes X50.here hx rfl (pc0 := 19) (pc' := 24) rfl (hb hby at_19) rfl (by decide) (by decide) k_) ?_
    show own_Go p e below _ T50 (mkF m 24 #[.val (.int p1), .val (.int (6 : Int32)), .val (.ref a_NO_LEADER), .val (.ref r50), .unset, .unset] [])
    refine own_by (fun t_ k_ => XS.aloadN X50.here hx rfl (hb hby at_24) rfl rfl k_) ?_
    show own_Go p e below _ T50 (mkF m 25 #[.val (.int p1), .val (.int (6 : Int32)), .val (.ref a_NO_LEADER), .val (.ref r50), .unset, .unset] [(.ref r50)])
    refine own_callV (W := 0) X50 hx hZ (y := (⟨"com/example/earnest_lease/earnestlease/protocol/Reply", "outcome", "()Lcom/example/earnest_lease/earnestlease/protocol/Reply$Outcome;"⟩ : MethodName)) (z := (⟨"com/example/earnest_lease/earnestlease/protocol/Reply", "outcome", "()Lcom/example/earnest_lease/earnestlease/protocol/Reply$Outcome;"⟩ : MethodName)) hown (hw _ (List.mem_of_getElem? (i := 39) rfl)) (hw _ (List.mem_of_getElem? (i := 40) rfl)) (notFace_of_selects (args := #[]) (mvT hZ (hw _ (List.mem_of_getElem? (i := 42) rfl)))) (hw _ (List.mem_of_getElem? (i := 42) rfl)) (hw _ (List.mem_of_getElem? (i := 41) rfl)) (hw _ (List.mem_of_getElem? (i := 10) rfl)) (hw _ (List.mem_of_getElem? (i := 43) rfl)) (by decide) (by rw [hml]; rfl) (argsL := []) pd_4 rfl (a := r50) rfl E50 (rm6 l Z a0 hw [] r50 a_NO_LEADER T50.heap n0 sz50 Fo50) (by decide) (by decide) (Nat.le_of_eq rfl) (by decide) (by decide) (rest := []) rfl (hb hby at_25) ?_
    intro v51 T51 L51 X51 hQ51
    obtain ⟨rfl, N51q, e51⟩ := hQ51
    have N51 := Fr.app N50 N51q
    show own_Go p e below _ T51 (mkF m 28 #[.val (.int p1), .val (.int (6 : Int32)), .val (.ref a_NO_LEADER), .val (.ref r50), .unset, .unset] [(.ref a_NO_LEADER)])
    refine own_by (fun t_ k_ => XS.aloadN X51.here hx rfl (hb hby at_28) rfl rfl k_) ?_
    show own_Go p e below _ T51 (mkF m 29 #[.val (.int p1), .val (.int (6 : Int32)), .val (.ref a_NO_LEADER), .val (.ref r50), .unset, .unset] [(.ref a_NO_LEADER), (.ref a_NO_LEADER)])
    refine own_by (fun t_ k_ => Jvm.RoadKit.acmp (g := (mkF m 29 #[.val (.int p1), .val (.int (6 : Int32)), .val (.ref a_NO_LEADER), .val (.ref r50), .unset, .unset] [(.ref a_NO_LEADER), (.ref a_NO_LEADER)])) X51 hx rfl rfl rfl (pc0 := 29) (pc' := 34) (same := true) rfl (hb hby at_29) rfl (decide_eq_true rfl) (by decide) (by decide) k_) ?_
    show own_Go p e below _ T51 (mkF m 34 #[.val (.int p1), .val (.int (6 : Int32)), .val (.ref a_NO_LEADER), .val (.ref r50), .unset, .unset] [])
    refine own_by (fun t_ k_ => XS.aloadN X51.here hx rfl (hb hby at_34) rfl rfl k_) ?_
    show own_Go p e below _ T51 (mkF m 35 #[.val (.int p1), .val (.int (6 : Int32)), .val (.ref a_NO_LEADER), .val (.ref r50), .unset, .unset] [(.ref r50)])
    refine own_callV (W := 0) X51 hx hZ (y := (⟨"com/example/earnest_lease/earnestlease/protocol/Reply", "token", "()J"⟩ : MethodName)) (z := (⟨"com/example/earnest_lease/earnestlease/protocol/Reply", "token", "()J"⟩ : MethodName)) hown (hw _ (List.mem_of_getElem? (i := 44) rfl)) (hw _ (List.mem_of_getElem? (i := 45) rfl)) (notFace_of_selects (args := #[]) (mvT hZ (hw _ (List.mem_of_getElem? (i := 47) rfl)))) (hw _ (List.mem_of_getElem? (i := 47) rfl)) (hw _ (List.mem_of_getElem? (i := 46) rfl)) (hw _ (List.mem_of_getElem? (i := 10) rfl)) (hw _ (List.mem_of_getElem? (i := 48) rfl)) (by decide) (by rw [hml]; rfl) (argsL := []) pd_5 rfl (a := r50) e51 E50 (rm7 l Z a0 hw [] r50 T50.heap n0 sz50 Ft50) (by decide) (by decide) (Nat.le_of_eq rfl) (by decide) (by decide) (rest := []) rfl (hb hby at_35) ?_
    intro v52 T52 L52 X52 hQ52
    obtain ⟨rfl, N52q, e52⟩ := hQ52
    have N52 := Fr.app N51 N52q
    show own_Go p e below _ T52 (mkF m 38 #[.val (.int p1), .val (.int (6 : Int32)), .val (.ref a_NO_LEADER), .val (.ref r50), .unset, .unset] [(.long (0 : Int64))])
    refine own_by (fun t_ k_ => XT.lconst X52.here hx rfl (hb hby at_38) k_) ?_
    show own_Go p e below _ T52 (mkF m 39 #[.val (.int p1), .val (.int (6 : Int32)), .val (.ref a_NO_LEADER), .val (.ref r50), .unset, .unset] [(.long (0 : Int64)), (.long (0 : Int64))])
    refine own_by (fun t_ k_ => XT.lcmp X52.here hx rfl (hb hby at_39) rfl k_) ?_
    show own_Go p e below _ T52 (mkF m 40 #[.val (.int p1), .val (.int (6 : Int32)), .val (.ref a_NO_LEADER), .val (.ref r50), .unset, .unset] [(.int (XT.cmpL (0 : Int64) (0 : Int64)))])
    refine own_if X52 hx 45 (hb hby at_40) (by decide) (by decide) (fun _ => ?_) (fun hc => absurd (show (XT.cmpL (0 : Int64) (0 : Int64)) = (0 : Int32) from by decide) (by first | exact hc | exact not_not_intro hc))
    show own_Go p e below _ T52 (mkF m 45 #[.val (.int p1), .val (.int (6 : Int32)), .val (.ref a_NO_LEADER), .val (.ref r50), .unset, .unset] [])
    refine own_by (fun t_ k_ => XS.aloadN X52.here hx rfl (hb hby at_45) rfl rfl k_) ?_
    show own_Go p e below _ T52 (mkF m 46 #[.val (.int p1), .val (.int (6 : Int32)), .val (.ref a_NO_LEADER), .val (.ref r50), .unset, .unset] [(.ref r50)])
    refine own_callV (W := 0) X52 hx hZ (y := (⟨"com/example/earnest_lease/earnestlease/protocol/Reply", "reason", "()Ljava/lang/String;"⟩ : MethodName)) (z := (⟨"com/example/earnest_lease/earnestlease/protocol/Reply", "reason", "()Ljava/lang/String;"⟩ : MethodName)) hown (hw _ (List.mem_of_getElem? (i := 49) rfl)) (hw _ (List.mem_of_getElem? (i := 50) rfl)) (notFace_of_selects (args := #[]) (mvT hZ (hw _ (List.mem_of_getElem? (i := 52) rfl)))) (hw _ (List.mem_of_getElem? (i := 52) rfl)) (hw _ (List.mem_of_getElem? (i := 51) rfl)) (hw _ (List.mem_of_getElem? (i := 10) rfl)) (hw _ (List.mem_of_getElem? (i := 53) rfl)) (by decide) (by rw [hml]; rfl) (argsL := []) pd_6 rfl (a := r50) e52 E50 (rm8 l Z a0 hw [] r50 b50 T50.heap n0 sz50 Fr50) (by decide) (by decide) (Nat.le_of_eq rfl) (by decide) (by decide) (rest := []) rfl (hb hby at_46) ?_
    intro v53 T53 L53 X53 hQ53
    obtain ⟨rfl, N53q, e53⟩ := hQ53
    have N53 := Fr.app N52 N53q
    show own_Go p e below _ T53 (mkF m 49 #[.val (.int p1), .val (.int (6 : Int32)), .val (.ref a_NO_LEADER), .val (.ref r50), .unset, .unset] [(.ref b50)])
    refine own_by (fun t_ k_ => XS.astore X53.here hx rfl (hb hby at_49) rfl rfl (l' := #[.val (.int p1), .val (.int (6 : Int32)), .val (.ref a_NO_LEADER), .val (.ref r50), .val (.ref b50), .unset]) rfl k_) ?_
    show own_Go p e below _ T53 (mkF m 51 #[.val (.int p1), .val (.int (6 : Int32)), .val (.ref a_NO_LEADER), .val (.ref r50), .val (.ref b50), .unset] [])
    refine own_by (fun t_ k_ => XS.aload X53.here hx rfl (hb hby at_51) rfl rfl k_) ?_
    show own_Go p e below _ T53 (mkF m 53 #[.val (.int p1), .val (.int (6 : Int32)), .val (.ref a_NO_LEADER), .val (.ref r50), .val (.ref b50), .unset] [(.ref b50)])
    refine own_by (fun t_ k_ => XS.ifnullNo X53.here hx rfl (hb hby at_53) rfl k_) ?_
    show own_Go p e below _ T53 (mkF m 56 #[.val (.int p1), .val (.int (6 : Int32)), .val (.ref a_NO_LEADER), .val (.ref r50), .val (.ref b50), .unset] [])
    refine own_by (fun t_ k_ => XS.aload X53.here hx rfl (hb hby at_56) rfl rfl k_) ?_
    show own_Go p e below _ T53 (mkF m 58 #[.val (.int p1), .val (.int (6 : Int32)), .val (.ref a_NO_LEADER), .val (.ref r50), .val (.ref b50), .unset] [(.ref b50)])
    refine own_callV (W := 0) X53 hx hZ (y := (⟨"java/lang/String", "isEmpty", "()Z"⟩ : MethodName)) (z := (⟨"java/lang/String", "isEmpty", "()Z"⟩ : MethodName)) hown (hw _ (List.mem_of_getElem? (i := 54) rfl)) (hw _ (List.mem_of_getElem? (i := 55) rfl)) (notFace_of_selects (args := #[]) (mvT hZ (hw _ (List.mem_of_getElem? (i := 57) rfl)))) (hw _ (List.mem_of_getElem? (i := 57) rfl)) (hw _ (List.mem_of_getElem? (i := 56) rfl)) (hw _ (List.mem_of_getElem? (i := 15) rfl)) (hw _ (List.mem_of_getElem? (i := 58) rfl)) (by decide) (by rw [hml]; rfl) (argsL := []) pd_7 rfl (a := b50) e53 Es50 (rm9 l Z a0 hw [] b50 d50 T50.heap n0 sz50 W50 V50) (by decide) (by decide) (Nat.le_of_eq rfl) (by decide) (by decide) (rest := []) rfl (hb hby at_58) ?_
    intro v54 T54 L54 X54 hQ54
    obtain ⟨rfl, N54q, e54⟩ := hQ54
    have N54 := Fr.app N53 N54q
    show own_Go p e below _ T54 (mkF m 61 #[.val (.int p1), .val (.int (6 : Int32)), .val (.ref a_NO_LEADER), .val (.ref r50), .val (.ref b50), .unset] [(.int (1 : Int32))])
    refine own_if X54 hx 66 (hb hby at_61) (by decide) (by decide) (fun _ => ?_) (fun hc => absurd (show ¬ (1 : Int32) = (0 : Int32) from by decide) (by first | exact hc | exact not_not_intro hc))
    show own_Go p e below _ T54 (mkF m 66 #[.val (.int p1), .val (.int (6 : Int32)), .val (.ref a_NO_LEADER), .val (.ref r50), .val (.ref b50), .unset] [])
    refine own_by (fun t_ k_ => XS.iloadN X54.here hx rfl (hb hby at_66) rfl k_) ?_
    show own_Go p e below _ T54 (mkF m 67 #[.val (.int p1), .val (.int (6 : Int32)), .val (.ref a_NO_LEADER), .val (.ref r50), .val (.ref b50), .unset] [(.int (6 : Int32))])
    refine own_by (fun t_ k_ => XS.bipush X54.here hx rfl (hb hby at_67) k_) ?_
    show own_Go p e below _ T54 (mkF m 69 #[.val (.int p1), .val (.int (6 : Int32)), .val (.ref a_NO_LEADER), .val (.ref r50), .val (.ref b50), .unset] [(.int (7 : Int32)), (.int (6 : Int32))])
    refine own_icmp X54 hx 76 (hb hby at_69) (by decide) (by decide) (fun _ => ?_) (fun hc => absurd (show ¬ (6 : Int32) = (7 : Int32) from by decide) (by first | exact hc | exact not_not_intro hc))
    show own_Go p e below _ T54 (mkF m 76 #[.val (.int p1), .val (.int (6 : Int32)), .val (.ref a_NO_LEADER), .val (.ref r50), .val (.ref b50), .unset] [])
    refine own_by (fun t_ k_ => XS.iconst X54.here hx rfl (hb hby at_76) k_) ?_
    show own_Go p e below _ T54 (mkF m 77 #[.val (.int p1), .val (.int (6 : Int32)), .val (.ref a_NO_LEADER), .val (.ref r50), .val (.ref b50), .unset] [(.int (0 : Int32))])
    refine own_by (fun t_ k_ => XS.istore X54.here hx rfl (hb hby at_77) rfl (l' := #[.val (.int p1), .val (.int (6 : Int32)), .val (.ref a_NO_LEADER), .val (.ref r50), .val (.ref b50), .val (.int (0 : Int32))]) rfl k_) ?_
    show own_Go p e below _ T54 (mkF m 79 #[.val (.int p1), .val (.int (6 : Int32)), .val (.ref a_NO_LEADER), .val (.ref r50), .val (.ref b50), .val (.int (0 : Int32))] [])
    refine own_by (fun t_ k_ => XS.aloadN X54.here hx rfl (hb hby at_79) rfl rfl k_) ?_
    show own_Go p e below _ T54 (mkF m 80 #[.val (.int p1), .val (.int (6 : Int32)), .val (.ref a_NO_LEADER), .val (.ref r50), .val (.ref b50), .val (.int (0 : Int32))] [(.ref r50)])
    have S_QUEUED_55 : Sta Z T50.heap "com/example/earnest_lease/earnestlease/protocol/Reply$Outcome" "QUEUED" "Lcom/example/earnest_lease/earnestlease/protocol/Reply$Outcome;" (.ref a_QUEUED) := (own_Sta_keep S_QUEUED K50 ns0)
    refine own_callV (W := 0) X54 hx hZ (y := (⟨"com/example/earnest_lease/earnestlease/protocol/Reply", "interim", "()Z"⟩ : MethodName)) (z := (⟨"com/example/earnest_lease/earnestlease/protocol/Reply", "interim", "()Z"⟩ : MethodName)) hown (hw _ (List.mem_of_getElem? (i := 60) rfl)) (hw _ (List.mem_of_getElem? (i := 61) rfl)) (notFace_of_selects (args := #[]) (mvT hZ (hw _ (List.mem_of_getElem? (i := 63) rfl)))) (hw _ (List.mem_of_getElem? (i := 63) rfl)) (hw _ (List.mem_of_getElem? (i := 62) rfl)) (hw _ (List.mem_of_getElem? (i := 10) rfl)) (hw _ (List.mem_of_getElem? (i := 64) rfl)) (by decide) (by rw [hml]; rfl) (argsL := []) pd_7 rfl (a := r50) e54 E50 (rm10 l Z a0 hw [] r50 a_NO_LEADER a_QUEUED T50.heap n0 sz50 Fo50 S_QUEUED_55) (by decide) (by decide) (Nat.le_of_eq rfl) (by decide) (by decide) (rest := []) rfl (hb hby at_80) ?_
    intro v56 T56 L56 X56 hQ56
    obtain ⟨rfl, N56q, e56⟩ := hQ56
    have N56 := Fr.app N54 N56q
    show own_Go p e below _ T56 (mkF m 83 #[.val (.int p1), .val (.int (6 : Int32)), .val (.ref a_NO_LEADER), .val (.ref r50), .val (.ref b50), .val (.int (0 : Int32))] [(.int (own_iq a_NO_LEADER a_QUEUED))])
    refine own_by (fun t_ k_ => XS.iload X56.here hx rfl (hb hby at_83) rfl k_) ?_
    show own_Go p e below _ T56 (mkF m 85 #[.val (.int p1), .val (.int (6 : Int32)), .val (.ref a_NO_LEADER), .val (.ref r50), .val (.ref b50), .val (.int (0 : Int32))] [(.int (0 : Int32)), (.int (own_iq a_NO_LEADER a_QUEUED))])
    refine own_icmp X56 hx 92 (hb hby at_85) (by decide) (by decide) (fun hc => absurd (show (own_iq a_NO_LEADER a_QUEUED) = (0 : Int32) from by simp [own_iq, Fld.ne F_ordinal_NO_LEADER F_ordinal_QUEUED (by decide)]) (by first | exact hc | exact not_not_intro hc)) (fun _ => ?_)
    show own_Go p e below _ T56 (mkF m 88 #[.val (.int p1), .val (.int (6 : Int32)), .val (.ref a_NO_LEADER), .val (.ref r50), .val (.ref b50), .val (.int (0 : Int32))] [])
    refine own_by (fun t_ k_ => XS.iconst X56.here hx rfl (hb hby at_88) k_) ?_
    show own_Go p e below _ T56 (mkF m 89 #[.val (.int p1), .val (.int (6 : Int32)), .val (.ref a_NO_LEADER), .val (.ref r50), .val (.ref b50), .val (.int (0 : Int32))] [(.int (1 : Int32))])
    refine own_by (fun t_ k_ => XS.goto X56.here hx rfl (pc0 := 89) (pc' := 93) rfl (hb hby at_89) (by decide) (by decide) k_) ?_
    show own_Go p e below _ T56 (mkF m 93 #[.val (.int p1), .val (.int (6 : Int32)), .val (.ref a_NO_LEADER), .val (.ref r50), .val (.ref b50), .val (.int (0 : Int32))] [(.int (1 : Int32))])
    refine own_retZw X56 hx hS50 (Nat.le_refl _) hlk Bd.returns (by decide) (hb hby at_93) e56 (by decide) (by decide) ?_
    exact ⟨rfl, N56⟩
  · show own_Go p e below _ s₁ (mkF m 8 #[.val (.int p1), .val (.int (7 : Int32)), .unset, .unset, .unset, .unset] [])
    refine own_by (fun t_ k_ => XS.iloadN X0.here hx rfl (hb hby at_8) rfl k_) ?_
    show own_Go p e below _ s₁ (mkF m 9 #[.val (.int p1), .val (.int (7 : Int32)), .unset, .unset, .unset, .unset] [(.int (7 : Int32))])
    refine own_callS (W := 0) X0 hx hZ (y := (⟨"com/example/earnest_lease/earnestlease/protocol/ReplyOfPinLaw", "pick", "(I)Lcom/example/earnest_lease/earnestlease/protocol/Reply$Outcome;"⟩ : MethodName)) hown (hw _ (List.mem_of_getElem? (i := 1) rfl)) (hw _ (List.mem_of_getElem? (i := 2) rfl)) (hw _ (List.mem_of_getElem? (i := 3) rfl)) (hw _ (List.mem_of_getElem? (i := 4) rfl)) (by decide) (by rw [hml]; rfl) (argsL := [(.int (7 : Int32))]) pd_0 rfl (rm1 l Z a0 hw [] (7 : Int32) a_QUEUED a_GRANTED a_HELD a_RENEWED a_RELEASED a_NOT_HELD a_REFUSED a_NO_LEADER a_QUEUED a_TAKEN h0 n0 Z0 S_GRANTED S_HELD S_RENEWED S_RELEASED S_NOT_HELD S_REFUSED S_NO_LEADER S_QUEUED S_TAKEN (Or.inr (Or.inr (Or.inr (Or.inr (Or.inr (Or.inr (Or.inr (Or.inl ⟨rfl, rfl⟩))))))))) (by decide) (by decide) (Nat.le_of_eq rfl) (by decide) (by decide) (rest := []) e0 rfl (hb hby at_9) ?_
    intro v57 T57 L57 X57 hQ57
    obtain ⟨rfl, N57q, e57⟩ := hQ57
    have N57 := Fr.app N0 N57q
    show own_Go p e below _ T57 (mkF m 12 #[.val (.int p1), .val (.int (7 : Int32)), .unset, .unset, .unset, .unset] [(.ref a_QUEUED)])
    refine own_by (fun t_ k_ => XS.astoreN X57.here hx rfl (hb hby at_12) rfl rfl (l' := #[.val (.int p1), .val (.int (7 : Int32)), .val (.ref a_QUEUED), .unset, .unset, .unset]) rfl k_) ?_
    show own_Go p e below _ T57 (mkF m 13 #[.val (.int p1), .val (.int (7 : Int32)), .val (.ref a_QUEUED), .unset, .unset, .unset] [])
    refine own_by (fun t_ k_ => XS.aloadN X57.here hx rfl (hb hby at_13) rfl rfl k_) ?_
    show own_Go p e below _ T57 (mkF m 14 #[.val (.int p1), .val (.int (7 : Int32)), .val (.ref a_QUEUED), .unset, .unset, .unset] [(.ref a_QUEUED)])
    refine own_callSH (W := 0) X57 hx hZ (y := (⟨"com/example/earnest_lease/earnestlease/protocol/Reply", "of", "(Lcom/example/earnest_lease/earnestlease/protocol/Reply$Outcome;)Lcom/example/earnest_lease/earnestlease/protocol/Reply;"⟩ : MethodName)) hown (hw _ (List.mem_of_getElem? (i := 8) rfl)) (hw _ (List.mem_of_getElem? (i := 9) rfl)) (hw _ (List.mem_of_getElem? (i := 10) rfl)) (hw _ (List.mem_of_getElem? (i := 11) rfl)) (by decide) (by rw [hml]; rfl) (argsL := [(.ref a_QUEUED)]) pd_1 rfl (rm2 l Z a0 hw [] a_QUEUED h0 n0 Z0 hEL) (by decide) (by decide) (Nat.le_of_eq rfl) (by decide) (by decide) (rest := []) e57 rfl (hb hby at_14) hS0 hk0 hEL hCH ?_
    intro v58 T58 L58 X58 hS58 hZ hown hQ58 H58
    obtain ⟨r58, b58, d58, rfl, N58q, K58, ⟨E58, Fo58, Ft58, Fr58⟩, Es58, W58, V58⟩ := hQ58
    have N58 := Fr.app N57 N58q
    have sz58 : n0 ≤ T58.heap.size := Nat.le_trans Z0 K58.1
    show own_Go p e below _ T58 (mkF m 17 #[.val (.int p1), .val (.int (7 : Int32)), .val (.ref a_QUEUED), .unset, .unset, .unset] [(.ref r58)])
    refine own_by (fun t_ k_ => XS.astoreN X58.here hx rfl (hb hby at_17) rfl rfl (l' := #[.val (.int p1), .val (.int (7 : Int32)), .val (.ref a_QUEUED), .val (.ref r58), .unset, .unset]) rfl k_) ?_
    show own_Go p e below _ T58 (mkF m 18 #[.val (.int p1), .val (.int (7 : Int32)), .val (.ref a_QUEUED), .val (.ref r58), .unset, .unset] [])
    refine own_by (fun t_ k_ => XS.aloadN X58.here hx rfl (hb hby at_18) rfl rfl k_) ?_
    show own_Go p e below _ T58 (mkF m 19 #[.val (.int p1), .val (.int (7 : Int32)), .val (.ref a_QUEUED), .val (.ref r58), .unset, .unset] [(.ref r58)])
    refine own_by (fun t_ k_ => XT.ifnonnullYes X58.here hx rfl (pc0 := 19) (pc' := 24) rfl (hb hby at_19) rfl (by decide) (by decide) k_) ?_
    show own_Go p e below _ T58 (mkF m 24 #[.val (.int p1), .val (.int (7 : Int32)), .val (.ref a_QUEUED), .val (.ref r58), .unset, .unset] [])
    refine own_by (fun t_ k_ => XS.aloadN X58.here hx rfl (hb hby at_24) rfl rfl k_) ?_
    show own_Go p e below _ T58 (mkF m 25 #[.val (.int p1), .val (.int (7 : Int32)), .val (.ref a_QUEUED), .val (.ref r58), .unset, .unset] [(.ref r58)])
    refine own_callV (W := 0) X58 hx hZ (y := (⟨"com/example/earnest_lease/earnestlease/protocol/Reply", "outcome", "()Lcom/example/earnest_lease/earnestlease/protocol/Reply$Outcome;"⟩ : MethodName)) (z := (⟨"com/example/earnest_lease/earnestlease/protocol/Reply", "outcome", "()Lcom/example/earnest_lease/earnestlease/protocol/Reply$Outcome;"⟩ : MethodName)) hown (hw _ (List.mem_of_getElem? (i := 39) rfl)) (hw _ (List.mem_of_getElem? (i := 40) rfl)) (notFace_of_selects (args := #[]) (mvT hZ (hw _ (List.mem_of_getElem? (i := 42) rfl)))) (hw _ (List.mem_of_getElem? (i := 42) rfl)) (hw _ (List.mem_of_getElem? (i := 41) rfl)) (hw _ (List.mem_of_getElem? (i := 10) rfl)) (hw _ (List.mem_of_getElem? (i := 43) rfl)) (by decide) (by rw [hml]; rfl) (argsL := []) pd_4 rfl (a := r58) rfl E58 (rm6 l Z a0 hw [] r58 a_QUEUED T58.heap n0 sz58 Fo58) (by decide) (by decide) (Nat.le_of_eq rfl) (by decide) (by decide) (rest := []) rfl (hb hby at_25) ?_
    intro v59 T59 L59 X59 hQ59
    obtain ⟨rfl, N59q, e59⟩ := hQ59
    have N59 := Fr.app N58 N59q
    show own_Go p e below _ T59 (mkF m 28 #[.val (.int p1), .val (.int (7 : Int32)), .val (.ref a_QUEUED), .val (.ref r58), .unset, .unset] [(.ref a_QUEUED)])
    refine own_by (fun t_ k_ => XS.aloadN X59.here hx rfl (hb hby at_28) rfl rfl k_) ?_
    show own_Go p e below _ T59 (mkF m 29 #[.val (.int p1), .val (.int (7 : Int32)), .val (.ref a_QUEUED), .val (.ref r58), .unset, .unset] [(.ref a_QUEUED), (.ref a_QUEUED)])
    refine own_by (fun t_ k_ => Jvm.RoadKit.acmp (g := (mkF m 29 #[.val (.int p1), .val (.int (7 : Int32)), .val (.ref a_QUEUED), .val (.ref r58), .unset, .unset] [(.ref a_QUEUED), (.ref a_QUEUED)])) X59 hx rfl rfl rfl (pc0 := 29) (pc' := 34) (same := true) rfl (hb hby at_29) rfl (decide_eq_true rfl) (by decide) (by decide) k_) ?_
    show own_Go p e below _ T59 (mkF m 34 #[.val (.int p1), .val (.int (7 : Int32)), .val (.ref a_QUEUED), .val (.ref r58), .unset, .unset] [])
    refine own_by (fun t_ k_ => XS.aloadN X59.here hx rfl (hb hby at_34) rfl rfl k_) ?_
    show own_Go p e below _ T59 (mkF m 35 #[.val (.int p1), .val (.int (7 : Int32)), .val (.ref a_QUEUED), .val (.ref r58), .unset, .unset] [(.ref r58)])
    refine own_callV (W := 0) X59 hx hZ (y := (⟨"com/example/earnest_lease/earnestlease/protocol/Reply", "token", "()J"⟩ : MethodName)) (z := (⟨"com/example/earnest_lease/earnestlease/protocol/Reply", "token", "()J"⟩ : MethodName)) hown (hw _ (List.mem_of_getElem? (i := 44) rfl)) (hw _ (List.mem_of_getElem? (i := 45) rfl)) (notFace_of_selects (args := #[]) (mvT hZ (hw _ (List.mem_of_getElem? (i := 47) rfl)))) (hw _ (List.mem_of_getElem? (i := 47) rfl)) (hw _ (List.mem_of_getElem? (i := 46) rfl)) (hw _ (List.mem_of_getElem? (i := 10) rfl)) (hw _ (List.mem_of_getElem? (i := 48) rfl)) (by decide) (by rw [hml]; rfl) (argsL := []) pd_5 rfl (a := r58) e59 E58 (rm7 l Z a0 hw [] r58 T58.heap n0 sz58 Ft58) (by decide) (by decide) (Nat.le_of_eq rfl) (by decide) (by decide) (rest := []) rfl (hb hby at_35) ?_
    intro v60 T60 L60 X60 hQ60
    obtain ⟨rfl, N60q, e60⟩ := hQ60
    have N60 := Fr.app N59 N60q
    show own_Go p e below _ T60 (mkF m 38 #[.val (.int p1), .val (.int (7 : Int32)), .val (.ref a_QUEUED), .val (.ref r58), .unset, .unset] [(.long (0 : Int64))])
    refine own_by (fun t_ k_ => XT.lconst X60.here hx rfl (hb hby at_38) k_) ?_
    show own_Go p e below _ T60 (mkF m 39 #[.val (.int p1), .val (.int (7 : Int32)), .val (.ref a_QUEUED), .val (.ref r58), .unset, .unset] [(.long (0 : Int64)), (.long (0 : Int64))])
    refine own_by (fun t_ k_ => XT.lcmp X60.here hx rfl (hb hby at_39) rfl k_) ?_
    show own_Go p e below _ T60 (mkF m 40 #[.val (.int p1), .val (.int (7 : Int32)), .val (.ref a_QUEUED), .val (.ref r58), .unset, .unset] [(.int (XT.cmpL (0 : Int64) (0 : Int64)))])
    refine own_if X60 hx 45 (hb hby at_40) (by decide) (by decide) (fun _ => ?_) (fun hc => absurd (show (XT.cmpL (0 : Int64) (0 : Int64)) = (0 : Int32) from by decide) (by first | exact hc | exact not_not_intro hc))
    show own_Go p e below _ T60 (mkF m 45 #[.val (.int p1), .val (.int (7 : Int32)), .val (.ref a_QUEUED), .val (.ref r58), .unset, .unset] [])
    refine own_by (fun t_ k_ => XS.aloadN X60.here hx rfl (hb hby at_45) rfl rfl k_) ?_
    show own_Go p e below _ T60 (mkF m 46 #[.val (.int p1), .val (.int (7 : Int32)), .val (.ref a_QUEUED), .val (.ref r58), .unset, .unset] [(.ref r58)])
    refine own_callV (W := 0) X60 hx hZ (y := (⟨"com/example/earnest_lease/earnestlease/protocol/Reply", "reason", "()Ljava/lang/String;"⟩ : MethodName)) (z := (⟨"com/example/earnest_lease/earnestlease/protocol/Reply", "reason", "()Ljava/lang/String;"⟩ : MethodName)) hown (hw _ (List.mem_of_getElem? (i := 49) rfl)) (hw _ (List.mem_of_getElem? (i := 50) rfl)) (notFace_of_selects (args := #[]) (mvT hZ (hw _ (List.mem_of_getElem? (i := 52) rfl)))) (hw _ (List.mem_of_getElem? (i := 52) rfl)) (hw _ (List.mem_of_getElem? (i := 51) rfl)) (hw _ (List.mem_of_getElem? (i := 10) rfl)) (hw _ (List.mem_of_getElem? (i := 53) rfl)) (by decide) (by rw [hml]; rfl) (argsL := []) pd_6 rfl (a := r58) e60 E58 (rm8 l Z a0 hw [] r58 b58 T58.heap n0 sz58 Fr58) (by decide) (by decide) (Nat.le_of_eq rfl) (by decide) (by decide) (rest := []) rfl (hb hby at_46) ?_
    intro v61 T61 L61 X61 hQ61
    obtain ⟨rfl, N61q, e61⟩ := hQ61
    have N61 := Fr.app N60 N61q
    show own_Go p e below _ T61 (mkF m 49 #[.val (.int p1), .val (.int (7 : Int32)), .val (.ref a_QUEUED), .val (.ref r58), .unset, .unset] [(.ref b58)])
    refine own_by (fun t_ k_ => XS.astore X61.here hx rfl (hb hby at_49) rfl rfl (l' := #[.val (.int p1), .val (.int (7 : Int32)), .val (.ref a_QUEUED), .val (.ref r58), .val (.ref b58), .unset]) rfl k_) ?_
    show own_Go p e below _ T61 (mkF m 51 #[.val (.int p1), .val (.int (7 : Int32)), .val (.ref a_QUEUED), .val (.ref r58), .val (.ref b58), .unset] [])
    refine own_by (fun t_ k_ => XS.aload X61.here hx rfl (hb hby at_51) rfl rfl k_) ?_
    show own_Go p e below _ T61 (mkF m 53 #[.val (.int p1), .val (.int (7 : Int32)), .val (.ref a_QUEUED), .val (.ref r58), .val (.ref b58), .unset] [(.ref b58)])
    refine own_by (fun t_ k_ => XS.ifnullNo X61.here hx rfl (hb hby at_53) rfl k_) ?_
    show own_Go p e below _ T61 (mkF m 56 #[.val (.int p1), .val (.int (7 : Int32)), .val (.ref a_QUEUED), .val (.ref r58), .val (.ref b58), .unset] [])
    refine own_by (fun t_ k_ => XS.aload X61.here hx rfl (hb hby at_56) rfl rfl k_) ?_
    show own_Go p e below _ T61 (mkF m 58 #[.val (.int p1), .val (.int (7 : Int32)), .val (.ref a_QUEUED), .val (.ref r58), .val (.ref b58), .unset] [(.ref b58)])
    refine own_callV (W := 0) X61 hx hZ (y := (⟨"java/lang/String", "isEmpty", "()Z"⟩ : MethodName)) (z := (⟨"java/lang/String", "isEmpty", "()Z"⟩ : MethodName)) hown (hw _ (List.mem_of_getElem? (i := 54) rfl)) (hw _ (List.mem_of_getElem? (i := 55) rfl)) (notFace_of_selects (args := #[]) (mvT hZ (hw _ (List.mem_of_getElem? (i := 57) rfl)))) (hw _ (List.mem_of_getElem? (i := 57) rfl)) (hw _ (List.mem_of_getElem? (i := 56) rfl)) (hw _ (List.mem_of_getElem? (i := 15) rfl)) (hw _ (List.mem_of_getElem? (i := 58) rfl)) (by decide) (by rw [hml]; rfl) (argsL := []) pd_7 rfl (a := b58) e61 Es58 (rm9 l Z a0 hw [] b58 d58 T58.heap n0 sz58 W58 V58) (by decide) (by decide) (Nat.le_of_eq rfl) (by decide) (by decide) (rest := []) rfl (hb hby at_58) ?_
    intro v62 T62 L62 X62 hQ62
    obtain ⟨rfl, N62q, e62⟩ := hQ62
    have N62 := Fr.app N61 N62q
    show own_Go p e below _ T62 (mkF m 61 #[.val (.int p1), .val (.int (7 : Int32)), .val (.ref a_QUEUED), .val (.ref r58), .val (.ref b58), .unset] [(.int (1 : Int32))])
    refine own_if X62 hx 66 (hb hby at_61) (by decide) (by decide) (fun _ => ?_) (fun hc => absurd (show ¬ (1 : Int32) = (0 : Int32) from by decide) (by first | exact hc | exact not_not_intro hc))
    show own_Go p e below _ T62 (mkF m 66 #[.val (.int p1), .val (.int (7 : Int32)), .val (.ref a_QUEUED), .val (.ref r58), .val (.ref b58), .unset] [])
    refine own_by (fun t_ k_ => XS.iloadN X62.here hx rfl (hb hby at_66) rfl k_) ?_
    show own_Go p e below _ T62 (mkF m 67 #[.val (.int p1), .val (.int (7 : Int32)), .val (.ref a_QUEUED), .val (.ref r58), .val (.ref b58), .unset] [(.int (7 : Int32))])
    refine own_by (fun t_ k_ => XS.bipush X62.here hx rfl (hb hby at_67) k_) ?_
    show own_Go p e below _ T62 (mkF m 69 #[.val (.int p1), .val (.int (7 : Int32)), .val (.ref a_QUEUED), .val (.ref r58), .val (.ref b58), .unset] [(.int (7 : Int32)), (.int (7 : Int32))])
    refine own_icmp X62 hx 76 (hb hby at_69) (by decide) (by decide) (fun hc => absurd (show (7 : Int32) = (7 : Int32) from by decide) (by first | exact hc | exact not_not_intro hc)) (fun _ => ?_)
    show own_Go p e below _ T62 (mkF m 72 #[.val (.int p1), .val (.int (7 : Int32)), .val (.ref a_QUEUED), .val (.ref r58), .val (.ref b58), .unset] [])
    refine own_by (fun t_ k_ => XS.iconst X62.here hx rfl (hb hby at_72) k_) ?_
    show own_Go p e below _ T62 (mkF m 73 #[.val (.int p1), .val (.int (7 : Int32)), .val (.ref a_QUEUED), .val (.ref r58), .val (.ref b58), .unset] [(.int (1 : Int32))])
    refine own_by (fun t_ k_ => XS.goto X62.here hx rfl (pc0 := 73) (pc' := 77) rfl (hb hby at_73) (by decide) (by decide) k_) ?_
    show own_Go p e below _ T62 (mkF m 77 #[.val (.int p1), .val (.int (7 : Int32)), .val (.ref a_QUEUED), .val (.ref r58), .val (.ref b58), .unset] [(.int (1 : Int32))])
    refine own_by (fun t_ k_ => XS.istore X62.here hx rfl (hb hby at_77) rfl (l' := #[.val (.int p1), .val (.int (7 : Int32)), .val (.ref a_QUEUED), .val (.ref r58), .val (.ref b58), .val (.int (1 : Int32))]) rfl k_) ?_
    show own_Go p e below _ T62 (mkF m 79 #[.val (.int p1), .val (.int (7 : Int32)), .val (.ref a_QUEUED), .val (.ref r58), .val (.ref b58), .val (.int (1 : Int32))] [])
    refine own_by (fun t_ k_ => XS.aloadN X62.here hx rfl (hb hby at_79) rfl rfl k_) ?_
    show own_Go p e below _ T62 (mkF m 80 #[.val (.int p1), .val (.int (7 : Int32)), .val (.ref a_QUEUED), .val (.ref r58), .val (.ref b58), .val (.int (1 : Int32))] [(.ref r58)])
    have S_QUEUED_63 : Sta Z T58.heap "com/example/earnest_lease/earnestlease/protocol/Reply$Outcome" "QUEUED" "Lcom/example/earnest_lease/earnestlease/protocol/Reply$Outcome;" (.ref a_QUEUED) := (own_Sta_keep S_QUEUED K58 ns0)
    refine own_callV (W := 0) X62 hx hZ (y := (⟨"com/example/earnest_lease/earnestlease/protocol/Reply", "interim", "()Z"⟩ : MethodName)) (z := (⟨"com/example/earnest_lease/earnestlease/protocol/Reply", "interim", "()Z"⟩ : MethodName)) hown (hw _ (List.mem_of_getElem? (i := 60) rfl)) (hw _ (List.mem_of_getElem? (i := 61) rfl)) (notFace_of_selects (args := #[]) (mvT hZ (hw _ (List.mem_of_getElem? (i := 63) rfl)))) (hw _ (List.mem_of_getElem? (i := 63) rfl)) (hw _ (List.mem_of_getElem? (i := 62) rfl)) (hw _ (List.mem_of_getElem? (i := 10) rfl)) (hw _ (List.mem_of_getElem? (i := 64) rfl)) (by decide) (by rw [hml]; rfl) (argsL := []) pd_7 rfl (a := r58) e62 E58 (rm10 l Z a0 hw [] r58 a_QUEUED a_QUEUED T58.heap n0 sz58 Fo58 S_QUEUED_63) (by decide) (by decide) (Nat.le_of_eq rfl) (by decide) (by decide) (rest := []) rfl (hb hby at_80) ?_
    intro v64 T64 L64 X64 hQ64
    obtain ⟨rfl, N64q, e64⟩ := hQ64
    have N64 := Fr.app N62 N64q
    show own_Go p e below _ T64 (mkF m 83 #[.val (.int p1), .val (.int (7 : Int32)), .val (.ref a_QUEUED), .val (.ref r58), .val (.ref b58), .val (.int (1 : Int32))] [(.int (own_iq a_QUEUED a_QUEUED))])
    refine own_by (fun t_ k_ => XS.iload X64.here hx rfl (hb hby at_83) rfl k_) ?_
    show own_Go p e below _ T64 (mkF m 85 #[.val (.int p1), .val (.int (7 : Int32)), .val (.ref a_QUEUED), .val (.ref r58), .val (.ref b58), .val (.int (1 : Int32))] [(.int (1 : Int32)), (.int (own_iq a_QUEUED a_QUEUED))])
    refine own_icmp X64 hx 92 (hb hby at_85) (by decide) (by decide) (fun hc => absurd (show (own_iq a_QUEUED a_QUEUED) = (1 : Int32) from by simp [own_iq]) (by first | exact hc | exact not_not_intro hc)) (fun _ => ?_)
    show own_Go p e below _ T64 (mkF m 88 #[.val (.int p1), .val (.int (7 : Int32)), .val (.ref a_QUEUED), .val (.ref r58), .val (.ref b58), .val (.int (1 : Int32))] [])
    refine own_by (fun t_ k_ => XS.iconst X64.here hx rfl (hb hby at_88) k_) ?_
    show own_Go p e below _ T64 (mkF m 89 #[.val (.int p1), .val (.int (7 : Int32)), .val (.ref a_QUEUED), .val (.ref r58), .val (.ref b58), .val (.int (1 : Int32))] [(.int (1 : Int32))])
    refine own_by (fun t_ k_ => XS.goto X64.here hx rfl (pc0 := 89) (pc' := 93) rfl (hb hby at_89) (by decide) (by decide) k_) ?_
    show own_Go p e below _ T64 (mkF m 93 #[.val (.int p1), .val (.int (7 : Int32)), .val (.ref a_QUEUED), .val (.ref r58), .val (.ref b58), .val (.int (1 : Int32))] [(.int (1 : Int32))])
    refine own_retZw X64 hx hS58 (Nat.le_refl _) hlk Bd.returns (by decide) (hb hby at_93) e64 (by decide) (by decide) ?_
    exact ⟨rfl, N64⟩
  · show own_Go p e below _ s₁ (mkF m 8 #[.val (.int p1), .val (.int (8 : Int32)), .unset, .unset, .unset, .unset] [])
    refine own_by (fun t_ k_ => XS.iloadN X0.here hx rfl (hb hby at_8) rfl k_) ?_
    show own_Go p e below _ s₁ (mkF m 9 #[.val (.int p1), .val (.int (8 : Int32)), .unset, .unset, .unset, .unset] [(.int (8 : Int32))])
    refine own_callS (W := 0) X0 hx hZ (y := (⟨"com/example/earnest_lease/earnestlease/protocol/ReplyOfPinLaw", "pick", "(I)Lcom/example/earnest_lease/earnestlease/protocol/Reply$Outcome;"⟩ : MethodName)) hown (hw _ (List.mem_of_getElem? (i := 1) rfl)) (hw _ (List.mem_of_getElem? (i := 2) rfl)) (hw _ (List.mem_of_getElem? (i := 3) rfl)) (hw _ (List.mem_of_getElem? (i := 4) rfl)) (by decide) (by rw [hml]; rfl) (argsL := [(.int (8 : Int32))]) pd_0 rfl (rm1 l Z a0 hw [] (8 : Int32) a_TAKEN a_GRANTED a_HELD a_RENEWED a_RELEASED a_NOT_HELD a_REFUSED a_NO_LEADER a_QUEUED a_TAKEN h0 n0 Z0 S_GRANTED S_HELD S_RENEWED S_RELEASED S_NOT_HELD S_REFUSED S_NO_LEADER S_QUEUED S_TAKEN (Or.inr (Or.inr (Or.inr (Or.inr (Or.inr (Or.inr (Or.inr (Or.inr (⟨rfl, rfl⟩)))))))))) (by decide) (by decide) (Nat.le_of_eq rfl) (by decide) (by decide) (rest := []) e0 rfl (hb hby at_9) ?_
    intro v65 T65 L65 X65 hQ65
    obtain ⟨rfl, N65q, e65⟩ := hQ65
    have N65 := Fr.app N0 N65q
    show own_Go p e below _ T65 (mkF m 12 #[.val (.int p1), .val (.int (8 : Int32)), .unset, .unset, .unset, .unset] [(.ref a_TAKEN)])
    refine own_by (fun t_ k_ => XS.astoreN X65.here hx rfl (hb hby at_12) rfl rfl (l' := #[.val (.int p1), .val (.int (8 : Int32)), .val (.ref a_TAKEN), .unset, .unset, .unset]) rfl k_) ?_
    show own_Go p e below _ T65 (mkF m 13 #[.val (.int p1), .val (.int (8 : Int32)), .val (.ref a_TAKEN), .unset, .unset, .unset] [])
    refine own_by (fun t_ k_ => XS.aloadN X65.here hx rfl (hb hby at_13) rfl rfl k_) ?_
    show own_Go p e below _ T65 (mkF m 14 #[.val (.int p1), .val (.int (8 : Int32)), .val (.ref a_TAKEN), .unset, .unset, .unset] [(.ref a_TAKEN)])
    refine own_callSH (W := 0) X65 hx hZ (y := (⟨"com/example/earnest_lease/earnestlease/protocol/Reply", "of", "(Lcom/example/earnest_lease/earnestlease/protocol/Reply$Outcome;)Lcom/example/earnest_lease/earnestlease/protocol/Reply;"⟩ : MethodName)) hown (hw _ (List.mem_of_getElem? (i := 8) rfl)) (hw _ (List.mem_of_getElem? (i := 9) rfl)) (hw _ (List.mem_of_getElem? (i := 10) rfl)) (hw _ (List.mem_of_getElem? (i := 11) rfl)) (by decide) (by rw [hml]; rfl) (argsL := [(.ref a_TAKEN)]) pd_1 rfl (rm2 l Z a0 hw [] a_TAKEN h0 n0 Z0 hEL) (by decide) (by decide) (Nat.le_of_eq rfl) (by decide) (by decide) (rest := []) e65 rfl (hb hby at_14) hS0 hk0 hEL hCH ?_
    intro v66 T66 L66 X66 hS66 hZ hown hQ66 H66
    obtain ⟨r66, b66, d66, rfl, N66q, K66, ⟨E66, Fo66, Ft66, Fr66⟩, Es66, W66, V66⟩ := hQ66
    have N66 := Fr.app N65 N66q
    have sz66 : n0 ≤ T66.heap.size := Nat.le_trans Z0 K66.1
    show own_Go p e below _ T66 (mkF m 17 #[.val (.int p1), .val (.int (8 : Int32)), .val (.ref a_TAKEN), .unset, .unset, .unset] [(.ref r66)])
    refine own_by (fun t_ k_ => XS.astoreN X66.here hx rfl (hb hby at_17) rfl rfl (l' := #[.val (.int p1), .val (.int (8 : Int32)), .val (.ref a_TAKEN), .val (.ref r66), .unset, .unset]) rfl k_) ?_
    show own_Go p e below _ T66 (mkF m 18 #[.val (.int p1), .val (.int (8 : Int32)), .val (.ref a_TAKEN), .val (.ref r66), .unset, .unset] [])
    refine own_by (fun t_ k_ => XS.aloadN X66.here hx rfl (hb hby at_18) rfl rfl k_) ?_
    show own_Go p e below _ T66 (mkF m 19 #[.val (.int p1), .val (.int (8 : Int32)), .val (.ref a_TAKEN), .val (.ref r66), .unset, .unset] [(.ref r66)])
    refine own_by (fun t_ k_ => XT.ifnonnullYes X66.here hx rfl (pc0 := 19) (pc' := 24) rfl (hb hby at_19) rfl (by decide) (by decide) k_) ?_
    show own_Go p e below _ T66 (mkF m 24 #[.val (.int p1), .val (.int (8 : Int32)), .val (.ref a_TAKEN), .val (.ref r66), .unset, .unset] [])
    refine own_by (fun t_ k_ => XS.aloadN X66.here hx rfl (hb hby at_24) rfl rfl k_) ?_
    show own_Go p e below _ T66 (mkF m 25 #[.val (.int p1), .val (.int (8 : Int32)), .val (.ref a_TAKEN), .val (.ref r66), .unset, .unset] [(.ref r66)])
    refine own_callV (W := 0) X66 hx hZ (y := (⟨"com/example/earnest_lease/earnestlease/protocol/Reply", "outcome", "()Lcom/example/earnest_lease/earnestlease/protocol/Reply$Outcome;"⟩ : MethodName)) (z := (⟨"com/example/earnest_lease/earnestlease/protocol/Reply", "outcome", "()Lcom/example/earnest_lease/earnestlease/protocol/Reply$Outcome;"⟩ : MethodName)) hown (hw _ (List.mem_of_getElem? (i := 39) rfl)) (hw _ (List.mem_of_getElem? (i := 40) rfl)) (notFace_of_selects (args := #[]) (mvT hZ (hw _ (List.mem_of_getElem? (i := 42) rfl)))) (hw _ (List.mem_of_getElem? (i := 42) rfl)) (hw _ (List.mem_of_getElem? (i := 41) rfl)) (hw _ (List.mem_of_getElem? (i := 10) rfl)) (hw _ (List.mem_of_getElem? (i := 43) rfl)) (by decide) (by rw [hml]; rfl) (argsL := []) pd_4 rfl (a := r66) rfl E66 (rm6 l Z a0 hw [] r66 a_TAKEN T66.heap n0 sz66 Fo66) (by decide) (by decide) (Nat.le_of_eq rfl) (by decide) (by decide) (rest := []) rfl (hb hby at_25) ?_
    intro v67 T67 L67 X67 hQ67
    obtain ⟨rfl, N67q, e67⟩ := hQ67
    have N67 := Fr.app N66 N67q
    show own_Go p e below _ T67 (mkF m 28 #[.val (.int p1), .val (.int (8 : Int32)), .val (.ref a_TAKEN), .val (.ref r66), .unset, .unset] [(.ref a_TAKEN)])
    refine own_by (fun t_ k_ => XS.aloadN X67.here hx rfl (hb hby at_28) rfl rfl k_) ?_
    show own_Go p e below _ T67 (mkF m 29 #[.val (.int p1), .val (.int (8 : Int32)), .val (.ref a_TAKEN), .val (.ref r66), .unset, .unset] [(.ref a_TAKEN), (.ref a_TAKEN)])
    refine own_by (fun t_ k_ => Jvm.RoadKit.acmp (g := (mkF m 29 #[.val (.int p1), .val (.int (8 : Int32)), .val (.ref a_TAKEN), .val (.ref r66), .unset, .unset] [(.ref a_TAKEN), (.ref a_TAKEN)])) X67 hx rfl rfl rfl (pc0 := 29) (pc' := 34) (same := true) rfl (hb hby at_29) rfl (decide_eq_true rfl) (by decide) (by decide) k_) ?_
    show own_Go p e below _ T67 (mkF m 34 #[.val (.int p1), .val (.int (8 : Int32)), .val (.ref a_TAKEN), .val (.ref r66), .unset, .unset] [])
    refine own_by (fun t_ k_ => XS.aloadN X67.here hx rfl (hb hby at_34) rfl rfl k_) ?_
    show own_Go p e below _ T67 (mkF m 35 #[.val (.int p1), .val (.int (8 : Int32)), .val (.ref a_TAKEN), .val (.ref r66), .unset, .unset] [(.ref r66)])
    refine own_callV (W := 0) X67 hx hZ (y := (⟨"com/example/earnest_lease/earnestlease/protocol/Reply", "token", "()J"⟩ : MethodName)) (z := (⟨"com/example/earnest_lease/earnestlease/protocol/Reply", "token", "()J"⟩ : MethodName)) hown (hw _ (List.mem_of_getElem? (i := 44) rfl)) (hw _ (List.mem_of_getElem? (i := 45) rfl)) (notFace_of_selects (args := #[]) (mvT hZ (hw _ (List.mem_of_getElem? (i := 47) rfl)))) (hw _ (List.mem_of_getElem? (i := 47) rfl)) (hw _ (List.mem_of_getElem? (i := 46) rfl)) (hw _ (List.mem_of_getElem? (i := 10) rfl)) (hw _ (List.mem_of_getElem? (i := 48) rfl)) (by decide) (by rw [hml]; rfl) (argsL := []) pd_5 rfl (a := r66) e67 E66 (rm7 l Z a0 hw [] r66 T66.heap n0 sz66 Ft66) (by decide) (by decide) (Nat.le_of_eq rfl) (by decide) (by decide) (rest := []) rfl (hb hby at_35) ?_
    intro v68 T68 L68 X68 hQ68
    obtain ⟨rfl, N68q, e68⟩ := hQ68
    have N68 := Fr.app N67 N68q
    show own_Go p e below _ T68 (mkF m 38 #[.val (.int p1), .val (.int (8 : Int32)), .val (.ref a_TAKEN), .val (.ref r66), .unset, .unset] [(.long (0 : Int64))])
    refine own_by (fun t_ k_ => XT.lconst X68.here hx rfl (hb hby at_38) k_) ?_
    show own_Go p e below _ T68 (mkF m 39 #[.val (.int p1), .val (.int (8 : Int32)), .val (.ref a_TAKEN), .val (.ref r66), .unset, .unset] [(.long (0 : Int64)), (.long (0 : Int64))])
    refine own_by (fun t_ k_ => XT.lcmp X68.here hx rfl (hb hby at_39) rfl k_) ?_
    show own_Go p e below _ T68 (mkF m 40 #[.val (.int p1), .val (.int (8 : Int32)), .val (.ref a_TAKEN), .val (.ref r66), .unset, .unset] [(.int (XT.cmpL (0 : Int64) (0 : Int64)))])
    refine own_if X68 hx 45 (hb hby at_40) (by decide) (by decide) (fun _ => ?_) (fun hc => absurd (show (XT.cmpL (0 : Int64) (0 : Int64)) = (0 : Int32) from by decide) (by first | exact hc | exact not_not_intro hc))
    show own_Go p e below _ T68 (mkF m 45 #[.val (.int p1), .val (.int (8 : Int32)), .val (.ref a_TAKEN), .val (.ref r66), .unset, .unset] [])
    refine own_by (fun t_ k_ => XS.aloadN X68.here hx rfl (hb hby at_45) rfl rfl k_) ?_
    show own_Go p e below _ T68 (mkF m 46 #[.val (.int p1), .val (.int (8 : Int32)), .val (.ref a_TAKEN), .val (.ref r66), .unset, .unset] [(.ref r66)])
    refine own_callV (W := 0) X68 hx hZ (y := (⟨"com/example/earnest_lease/earnestlease/protocol/Reply", "reason", "()Ljava/lang/String;"⟩ : MethodName)) (z := (⟨"com/example/earnest_lease/earnestlease/protocol/Reply", "reason", "()Ljava/lang/String;"⟩ : MethodName)) hown (hw _ (List.mem_of_getElem? (i := 49) rfl)) (hw _ (List.mem_of_getElem? (i := 50) rfl)) (notFace_of_selects (args := #[]) (mvT hZ (hw _ (List.mem_of_getElem? (i := 52) rfl)))) (hw _ (List.mem_of_getElem? (i := 52) rfl)) (hw _ (List.mem_of_getElem? (i := 51) rfl)) (hw _ (List.mem_of_getElem? (i := 10) rfl)) (hw _ (List.mem_of_getElem? (i := 53) rfl)) (by decide) (by rw [hml]; rfl) (argsL := []) pd_6 rfl (a := r66) e68 E66 (rm8 l Z a0 hw [] r66 b66 T66.heap n0 sz66 Fr66) (by decide) (by decide) (Nat.le_of_eq rfl) (by decide) (by decide) (rest := []) rfl (hb hby at_46) ?_
    intro v69 T69 L69 X69 hQ69
    obtain ⟨rfl, N69q, e69⟩ := hQ69
    have N69 := Fr.app N68 N69q
    show own_Go p e below _ T69 (mkF m 49 #[.val (.int p1), .val (.int (8 : Int32)), .val (.ref a_TAKEN), .val (.ref r66), .unset, .unset] [(.ref b66)])
    refine own_by (fun t_ k_ => XS.astore X69.here hx rfl (hb hby at_49) rfl rfl (l' := #[.val (.int p1), .val (.int (8 : Int32)), .val (.ref a_TAKEN), .val (.ref r66), .val (.ref b66), .unset]) rfl k_) ?_
    show own_Go p e below _ T69 (mkF m 51 #[.val (.int p1), .val (.int (8 : Int32)), .val (.ref a_TAKEN), .val (.ref r66), .val (.ref b66), .unset] [])
    refine own_by (fun t_ k_ => XS.aload X69.here hx rfl (hb hby at_51) rfl rfl k_) ?_
    show own_Go p e below _ T69 (mkF m 53 #[.val (.int p1), .val (.int (8 : Int32)), .val (.ref a_TAKEN), .val (.ref r66), .val (.ref b66), .unset] [(.ref b66)])
    refine own_by (fun t_ k_ => XS.ifnullNo X69.here hx rfl (hb hby at_53) rfl k_) ?_
    show own_Go p e below _ T69 (mkF m 56 #[.val (.int p1), .val (.int (8 : Int32)), .val (.ref a_TAKEN), .val (.ref r66), .val (.ref b66), .unset] [])
    refine own_by (fun t_ k_ => XS.aload X69.here hx rfl (hb hby at_56) rfl rfl k_) ?_
    show own_Go p e below _ T69 (mkF m 58 #[.val (.int p1), .val (.int (8 : Int32)), .val (.ref a_TAKEN), .val (.ref r66), .val (.ref b66), .unset] [(.ref b66)])
    refine own_callV (W := 0) X69 hx hZ (y := (⟨"java/lang/String", "isEmpty", "()Z"⟩ : MethodName)) (z := (⟨"java/lang/String", "isEmpty", "()Z"⟩ : MethodName)) hown (hw _ (List.mem_of_getElem? (i := 54) rfl)) (hw _ (List.mem_of_getElem? (i := 55) rfl)) (notFace_of_selects (args := #[]) (mvT hZ (hw _ (List.mem_of_getElem? (i := 57) rfl)))) (hw _ (List.mem_of_getElem? (i := 57) rfl)) (hw _ (List.mem_of_getElem? (i := 56) rfl)) (hw _ (List.mem_of_getElem? (i := 15) rfl)) (hw _ (List.mem_of_getElem? (i := 58) rfl)) (by decide) (by rw [hml]; rfl) (argsL := []) pd_7 rfl (a := b66) e69 Es66 (rm9 l Z a0 hw [] b66 d66 T66.heap n0 sz66 W66 V66) (by decide) (by decide) (Nat.le_of_eq rfl) (by decide) (by decide) (rest := []) rfl (hb hby at_58) ?_
    intro v70 T70 L70 X70 hQ70
    obtain ⟨rfl, N70q, e70⟩ := hQ70
    have N70 := Fr.app N69 N70q
    show own_Go p e below _ T70 (mkF m 61 #[.val (.int p1), .val (.int (8 : Int32)), .val (.ref a_TAKEN), .val (.ref r66), .val (.ref b66), .unset] [(.int (1 : Int32))])
    refine own_if X70 hx 66 (hb hby at_61) (by decide) (by decide) (fun _ => ?_) (fun hc => absurd (show ¬ (1 : Int32) = (0 : Int32) from by decide) (by first | exact hc | exact not_not_intro hc))
    show own_Go p e below _ T70 (mkF m 66 #[.val (.int p1), .val (.int (8 : Int32)), .val (.ref a_TAKEN), .val (.ref r66), .val (.ref b66), .unset] [])
    refine own_by (fun t_ k_ => XS.iloadN X70.here hx rfl (hb hby at_66) rfl k_) ?_
    show own_Go p e below _ T70 (mkF m 67 #[.val (.int p1), .val (.int (8 : Int32)), .val (.ref a_TAKEN), .val (.ref r66), .val (.ref b66), .unset] [(.int (8 : Int32))])
    refine own_by (fun t_ k_ => XS.bipush X70.here hx rfl (hb hby at_67) k_) ?_
    show own_Go p e below _ T70 (mkF m 69 #[.val (.int p1), .val (.int (8 : Int32)), .val (.ref a_TAKEN), .val (.ref r66), .val (.ref b66), .unset] [(.int (7 : Int32)), (.int (8 : Int32))])
    refine own_icmp X70 hx 76 (hb hby at_69) (by decide) (by decide) (fun _ => ?_) (fun hc => absurd (show ¬ (8 : Int32) = (7 : Int32) from by decide) (by first | exact hc | exact not_not_intro hc))
    show own_Go p e below _ T70 (mkF m 76 #[.val (.int p1), .val (.int (8 : Int32)), .val (.ref a_TAKEN), .val (.ref r66), .val (.ref b66), .unset] [])
    refine own_by (fun t_ k_ => XS.iconst X70.here hx rfl (hb hby at_76) k_) ?_
    show own_Go p e below _ T70 (mkF m 77 #[.val (.int p1), .val (.int (8 : Int32)), .val (.ref a_TAKEN), .val (.ref r66), .val (.ref b66), .unset] [(.int (0 : Int32))])
    refine own_by (fun t_ k_ => XS.istore X70.here hx rfl (hb hby at_77) rfl (l' := #[.val (.int p1), .val (.int (8 : Int32)), .val (.ref a_TAKEN), .val (.ref r66), .val (.ref b66), .val (.int (0 : Int32))]) rfl k_) ?_
    show own_Go p e below _ T70 (mkF m 79 #[.val (.int p1), .val (.int (8 : Int32)), .val (.ref a_TAKEN), .val (.ref r66), .val (.ref b66), .val (.int (0 : Int32))] [])
    refine own_by (fun t_ k_ => XS.aloadN X70.here hx rfl (hb hby at_79) rfl rfl k_) ?_
    show own_Go p e below _ T70 (mkF m 80 #[.val (.int p1), .val (.int (8 : Int32)), .val (.ref a_TAKEN), .val (.ref r66), .val (.ref b66), .val (.int (0 : Int32))] [(.ref r66)])
    have S_QUEUED_71 : Sta Z T66.heap "com/example/earnest_lease/earnestlease/protocol/Reply$Outcome" "QUEUED" "Lcom/example/earnest_lease/earnestlease/protocol/Reply$Outcome;" (.ref a_QUEUED) := (own_Sta_keep S_QUEUED K66 ns0)
    refine own_callV (W := 0) X70 hx hZ (y := (⟨"com/example/earnest_lease/earnestlease/protocol/Reply", "interim", "()Z"⟩ : MethodName)) (z := (⟨"com/example/earnest_lease/earnestlease/protocol/Reply", "interim", "()Z"⟩ : MethodName)) hown (hw _ (List.mem_of_getElem? (i := 60) rfl)) (hw _ (List.mem_of_getElem? (i := 61) rfl)) (notFace_of_selects (args := #[]) (mvT hZ (hw _ (List.mem_of_getElem? (i := 63) rfl)))) (hw _ (List.mem_of_getElem? (i := 63) rfl)) (hw _ (List.mem_of_getElem? (i := 62) rfl)) (hw _ (List.mem_of_getElem? (i := 10) rfl)) (hw _ (List.mem_of_getElem? (i := 64) rfl)) (by decide) (by rw [hml]; rfl) (argsL := []) pd_7 rfl (a := r66) e70 E66 (rm10 l Z a0 hw [] r66 a_TAKEN a_QUEUED T66.heap n0 sz66 Fo66 S_QUEUED_71) (by decide) (by decide) (Nat.le_of_eq rfl) (by decide) (by decide) (rest := []) rfl (hb hby at_80) ?_
    intro v72 T72 L72 X72 hQ72
    obtain ⟨rfl, N72q, e72⟩ := hQ72
    have N72 := Fr.app N70 N72q
    show own_Go p e below _ T72 (mkF m 83 #[.val (.int p1), .val (.int (8 : Int32)), .val (.ref a_TAKEN), .val (.ref r66), .val (.ref b66), .val (.int (0 : Int32))] [(.int (own_iq a_TAKEN a_QUEUED))])
    refine own_by (fun t_ k_ => XS.iload X72.here hx rfl (hb hby at_83) rfl k_) ?_
    show own_Go p e below _ T72 (mkF m 85 #[.val (.int p1), .val (.int (8 : Int32)), .val (.ref a_TAKEN), .val (.ref r66), .val (.ref b66), .val (.int (0 : Int32))] [(.int (0 : Int32)), (.int (own_iq a_TAKEN a_QUEUED))])
    refine own_icmp X72 hx 92 (hb hby at_85) (by decide) (by decide) (fun hc => absurd (show (own_iq a_TAKEN a_QUEUED) = (0 : Int32) from by simp [own_iq, Fld.ne F_ordinal_TAKEN F_ordinal_QUEUED (by decide)]) (by first | exact hc | exact not_not_intro hc)) (fun _ => ?_)
    show own_Go p e below _ T72 (mkF m 88 #[.val (.int p1), .val (.int (8 : Int32)), .val (.ref a_TAKEN), .val (.ref r66), .val (.ref b66), .val (.int (0 : Int32))] [])
    refine own_by (fun t_ k_ => XS.iconst X72.here hx rfl (hb hby at_88) k_) ?_
    show own_Go p e below _ T72 (mkF m 89 #[.val (.int p1), .val (.int (8 : Int32)), .val (.ref a_TAKEN), .val (.ref r66), .val (.ref b66), .val (.int (0 : Int32))] [(.int (1 : Int32))])
    refine own_by (fun t_ k_ => XS.goto X72.here hx rfl (pc0 := 89) (pc' := 93) rfl (hb hby at_89) (by decide) (by decide) k_) ?_
    show own_Go p e below _ T72 (mkF m 93 #[.val (.int p1), .val (.int (8 : Int32)), .val (.ref a_TAKEN), .val (.ref r66), .val (.ref b66), .val (.int (0 : Int32))] [(.int (1 : Int32))])
    refine own_retZw X72 hx hS66 (Nat.le_refl _) hlk Bd.returns (by decide) (hb hby at_93) e72 (by decide) (by decide) ?_
    exact ⟨rfl, N72⟩
set_option maxRecDepth 65536 in
set_option maxHeartbeats 40000000 in
theorem comes_1 {Post : Tables → Env → Array Value → State → Outcome → State → Prop} (hpost : ∀ tb e args s v u, (limb_1_1.after args s (.returned v) u = true ∧ limb_1_2.after args s (.returned v) u = true ∧ True) → ReturnedEndW s (.returned v) u (Jvm.fieldLocs frame_1_writes args s ++ Jvm.arrayLocs frame_1_arrays args s ++ Jvm.staticLocs frame_1_statics s) 16 1152 → Post tb e args s (.returned v) u) :
    ArmFor flags0 classFile x code maxLocals ret World_1 tables_1 room_1 Calls_1 rest_1 Pre_1 Post := by
  intro l hfl _ _ p e ha hc hk s m args below hf hA hF happ hP
  obtain ⟨hcalls, hrest, hpre⟩ := hP
  obtain ⟨-, -, -, hnamed, -, -, -, hat⟩ := (Spec.applies_iff hf).mp happ
  obtain ⟨hg, hn⟩ := and_e (Cond.before_iff.mp (show (Jvm.Cond.and given_1 narrow_1).before args s = true from hpre))
  obtain ⟨gc, gr0⟩ := and_e hg
  obtain ⟨w0, rfl⟩ : ∃ w0 : Value, args = #[w0] := by
    have hs : args.size = 1 := by simpa [Cond.value, given_1] using gc
    obtain ⟨L⟩ := args
    match L, hs with
    | [w0], _ => exact ⟨w0, rfl⟩
  have hw := fun d (hd : d ∈ tables_1) => atoms_spec (ws := Jvm.Cond.code x code maxLocals ret :: tables_1) hat d (List.mem_cons_of_mem _ hd)
  have hfit : Fit s := fun {y c} hc i hi => by
    obtain ⟨ha, rfl⟩ := Array.getElem?_eq_some_iff.mp hc
    have q := List.all_eq_true.mp ((Array.all_eq_true_iff_forall_mem.mp hF) _ (Array.getElem_mem ha)) i (List.mem_range.mpr hi)
    simpa [Array.getElem?_eq_getElem hi] using q
  obtain ⟨i0, ei0⟩ := is_v gr0
  obtain rfl : w0 = (.int i0) := Option.some.inj ei0
  obtain ⟨hN0, hR1⟩ := and_e hn
  obtain ⟨hN1, hR2⟩ := and_e hR1
  obtain ⟨hN2, hR3⟩ := and_e hR2
  obtain ⟨hN3, hR4⟩ := and_e hR3
  obtain ⟨hN4, hR5⟩ := and_e hR4
  obtain ⟨hN5, hR6⟩ := and_e hR5
  obtain ⟨hN6, hR7⟩ := and_e hR6
  obtain ⟨hN7, hR8⟩ := and_e hR7
  obtain ⟨hN8, hR9⟩ := and_e hR8
  obtain ⟨hN9, hR10⟩ := and_e hR9
  obtain ⟨hN10, hR11⟩ := and_e hR10
  obtain ⟨hN11, hR12⟩ := and_e hR11
  obtain ⟨hN12, hR13⟩ := and_e hR12
  obtain ⟨hN13, hR14⟩ := and_e hR13
  obtain ⟨hN14, hR15⟩ := and_e hR14
  obtain ⟨hN15, hR16⟩ := and_e hR15
  obtain ⟨hN16, hR17⟩ := and_e hR16
  have hN17 := hR17
  obtain ⟨a_GRANTED, ev_GRANTED⟩ := exa_v hN0
  have E_GRANTED : Exa s s.heap a_GRANTED "com/example/earnest_lease/earnestlease/protocol/Reply$Outcome" := Exa.start ev_GRANTED hN0
  have S_GRANTED : Sta s s.heap "com/example/earnest_lease/earnestlease/protocol/Reply$Outcome" "GRANTED" "Lcom/example/earnest_lease/earnestlease/protocol/Reply$Outcome;" (.ref a_GRANTED) := Sta.start ev_GRANTED (Or.inr ⟨(hw _ (List.mem_of_getElem? (i := 6) rfl)), (hw _ (List.mem_of_getElem? (i := 7) rfl))⟩)
  obtain ⟨a_QUEUED, ev_QUEUED⟩ := exa_v hN1
  have E_QUEUED : Exa s s.heap a_QUEUED "com/example/earnest_lease/earnestlease/protocol/Reply$Outcome" := Exa.start ev_QUEUED hN1
  have S_QUEUED : Sta s s.heap "com/example/earnest_lease/earnestlease/protocol/Reply$Outcome" "QUEUED" "Lcom/example/earnest_lease/earnestlease/protocol/Reply$Outcome;" (.ref a_QUEUED) := Sta.start ev_QUEUED (Or.inr ⟨(hw _ (List.mem_of_getElem? (i := 6) rfl)), (hw _ (List.mem_of_getElem? (i := 66) rfl))⟩)
  obtain ⟨a_RELEASED, ev_RELEASED⟩ := exa_v hN4
  have E_RELEASED : Exa s s.heap a_RELEASED "com/example/earnest_lease/earnestlease/protocol/Reply$Outcome" := Exa.start ev_RELEASED hN4
  have S_RELEASED : Sta s s.heap "com/example/earnest_lease/earnestlease/protocol/Reply$Outcome" "RELEASED" "Lcom/example/earnest_lease/earnestlease/protocol/Reply$Outcome;" (.ref a_RELEASED) := Sta.start ev_RELEASED (Or.inr ⟨(hw _ (List.mem_of_getElem? (i := 6) rfl)), (hw _ (List.mem_of_getElem? (i := 68) rfl))⟩)
  obtain ⟨a_RENEWED, ev_RENEWED⟩ := exa_v hN6
  have E_RENEWED : Exa s s.heap a_RENEWED "com/example/earnest_lease/earnestlease/protocol/Reply$Outcome" := Exa.start ev_RENEWED hN6
  have S_RENEWED : Sta s s.heap "com/example/earnest_lease/earnestlease/protocol/Reply$Outcome" "RENEWED" "Lcom/example/earnest_lease/earnestlease/protocol/Reply$Outcome;" (.ref a_RENEWED) := Sta.start ev_RENEWED (Or.inr ⟨(hw _ (List.mem_of_getElem? (i := 6) rfl)), (hw _ (List.mem_of_getElem? (i := 70) rfl))⟩)
  obtain ⟨a_HELD, ev_HELD⟩ := exa_v hN8
  have E_HELD : Exa s s.heap a_HELD "com/example/earnest_lease/earnestlease/protocol/Reply$Outcome" := Exa.start ev_HELD hN8
  have S_HELD : Sta s s.heap "com/example/earnest_lease/earnestlease/protocol/Reply$Outcome" "HELD" "Lcom/example/earnest_lease/earnestlease/protocol/Reply$Outcome;" (.ref a_HELD) := Sta.start ev_HELD (Or.inr ⟨(hw _ (List.mem_of_getElem? (i := 6) rfl)), (hw _ (List.mem_of_getElem? (i := 72) rfl))⟩)
  obtain ⟨a_NOT_HELD, ev_NOT_HELD⟩ := exa_v hN10
  have E_NOT_HELD : Exa s s.heap a_NOT_HELD "com/example/earnest_lease/earnestlease/protocol/Reply$Outcome" := Exa.start ev_NOT_HELD hN10
  have S_NOT_HELD : Sta s s.heap "com/example/earnest_lease/earnestlease/protocol/Reply$Outcome" "NOT_HELD" "Lcom/example/earnest_lease/earnestlease/protocol/Reply$Outcome;" (.ref a_NOT_HELD) := Sta.start ev_NOT_HELD (Or.inr ⟨(hw _ (List.mem_of_getElem? (i := 6) rfl)), (hw _ (List.mem_of_getElem? (i := 75) rfl))⟩)
  obtain ⟨a_TAKEN, ev_TAKEN⟩ := exa_v hN12
  have E_TAKEN : Exa s s.heap a_TAKEN "com/example/earnest_lease/earnestlease/protocol/Reply$Outcome" := Exa.start ev_TAKEN hN12
  have S_TAKEN : Sta s s.heap "com/example/earnest_lease/earnestlease/protocol/Reply$Outcome" "TAKEN" "Lcom/example/earnest_lease/earnestlease/protocol/Reply$Outcome;" (.ref a_TAKEN) := Sta.start ev_TAKEN (Or.inr ⟨(hw _ (List.mem_of_getElem? (i := 6) rfl)), (hw _ (List.mem_of_getElem? (i := 77) rfl))⟩)
  obtain ⟨a_NO_LEADER, ev_NO_LEADER⟩ := exa_v hN14
  have E_NO_LEADER : Exa s s.heap a_NO_LEADER "com/example/earnest_lease/earnestlease/protocol/Reply$Outcome" := Exa.start ev_NO_LEADER hN14
  have S_NO_LEADER : Sta s s.heap "com/example/earnest_lease/earnestlease/protocol/Reply$Outcome" "NO_LEADER" "Lcom/example/earnest_lease/earnestlease/protocol/Reply$Outcome;" (.ref a_NO_LEADER) := Sta.start ev_NO_LEADER (Or.inr ⟨(hw _ (List.mem_of_getElem? (i := 6) rfl)), (hw _ (List.mem_of_getElem? (i := 79) rfl))⟩)
  obtain ⟨a_REFUSED, ev_REFUSED⟩ := exa_v hN16
  have E_REFUSED : Exa s s.heap a_REFUSED "com/example/earnest_lease/earnestlease/protocol/Reply$Outcome" := Exa.start ev_REFUSED hN16
  have S_REFUSED : Sta s s.heap "com/example/earnest_lease/earnestlease/protocol/Reply$Outcome" "REFUSED" "Lcom/example/earnest_lease/earnestlease/protocol/Reply$Outcome;" (.ref a_REFUSED) := Sta.start ev_REFUSED (Or.inr ⟨(hw _ (List.mem_of_getElem? (i := 6) rfl)), (hw _ (List.mem_of_getElem? (i := 81) rfl))⟩)
  have F_ordinal_GRANTED : Fld s s.heap a_GRANTED "java/lang/Enum" "ordinal" "I" (.int (0 : Int32)) := own_enumF ev_GRANTED hN2
  have F_ordinal_QUEUED : Fld s s.heap a_QUEUED "java/lang/Enum" "ordinal" "I" (.int (7 : Int32)) := own_enumF ev_QUEUED hN3
  have F_ordinal_RELEASED : Fld s s.heap a_RELEASED "java/lang/Enum" "ordinal" "I" (.int (3 : Int32)) := own_enumF ev_RELEASED hN5
  have F_ordinal_RENEWED : Fld s s.heap a_RENEWED "java/lang/Enum" "ordinal" "I" (.int (2 : Int32)) := own_enumF ev_RENEWED hN7
  have F_ordinal_HELD : Fld s s.heap a_HELD "java/lang/Enum" "ordinal" "I" (.int (1 : Int32)) := own_enumF ev_HELD hN9
  have F_ordinal_NOT_HELD : Fld s s.heap a_NOT_HELD "java/lang/Enum" "ordinal" "I" (.int (4 : Int32)) := own_enumF ev_NOT_HELD hN11
  have F_ordinal_TAKEN : Fld s s.heap a_TAKEN "java/lang/Enum" "ordinal" "I" (.int (8 : Int32)) := own_enumF ev_TAKEN hN13
  have F_ordinal_NO_LEADER : Fld s s.heap a_NO_LEADER "java/lang/Enum" "ordinal" "I" (.int (6 : Int32)) := own_enumF ev_NO_LEADER hN15
  have F_ordinal_REFUSED : Fld s s.heap a_REFUSED "java/lang/Enum" "ordinal" "I" (.int (5 : Int32)) := own_enumF ev_REFUSED hN17
  obtain ⟨hsets, hown0⟩ := atoms_of _ (rest_1_c_eq ▸ (show rest_1_c.before _ s = true from hrest))
  have hEL : EW s _ consts_1 := EW.cons (hw _ (List.mem_of_getElem? (i := 14) rfl)) (by decide) EW.nil
  have hCH : CHv s consts_1 s.vm s.heap := CHv.start hEL hcalls.1 (hsets _ (List.mem_of_getElem? (i := 2) rfl)) (hw _ (List.mem_of_getElem? (i := 17) rfl)) (hw _ (List.mem_of_getElem? (i := 16) rfl))
  obtain ⟨n, o, h1, h2, h3, _, L, rfl, ⟨rfl, N⟩, hq⟩ := rm0 l s _ hw tables_1 i0 a_GRANTED a_HELD a_RENEWED a_RELEASED a_NOT_HELD a_REFUSED a_NO_LEADER a_QUEUED a_TAKEN s.heap s.heap.size (Nat.le_refl _) S_GRANTED S_HELD S_RENEWED S_RELEASED S_NOT_HELD S_REFUSED S_NO_LEADER S_QUEUED S_TAKEN F_ordinal_GRANTED F_ordinal_HELD F_ordinal_RENEWED F_ordinal_RELEASED F_ordinal_NOT_HELD F_ordinal_REFUSED F_ordinal_NO_LEADER F_ordinal_QUEUED F_ordinal_TAKEN hEL p e ha hc hk s m _ below hf ((Spec.applies_iff_loose hf).mp happ).1 ⟨rfl, State.Warmed39.refl s, rfl, hCH⟩ trivial
  refine ⟨n, _, h1, h2, h3, hpost _ _ _ _ _ _ ⟨Cond.after_iff.mpr rfl, Cond.after_iff.mpr (eq_i res_at (Term.int_eval (1)) rfl), trivial⟩ ⟨hq.1, hq.2.1, hq.2.2.1, (hq.2.2.2.sift fun y hy => Or.inr (N y hy)).mono (by decide) (by decide)⟩⟩
theorem main_1_1 : Claimed_1_1 := comes_1 fun _ _ _ _ _ _ h hF => ⟨h.1, hF⟩
theorem main_1_2 : Claimed_1_2 := comes_1 fun _ _ _ _ _ _ h hF => ⟨h.2.1, hF⟩
end Jvm.Pilot.@@N@@
namespace Jvm.Pilot.@@N@@
open Jvm Jvm.ClassFile Sem Op Lib Jvm.Free Jvm.Stand Jvm.Pilot.@@N@@.Jvm.D
/-! MADE BY PROGRAM (witnessworld.py) out of the Statement's table words and the real class files: 21 classes; the members and pool entries that the words name. The judged class is class 1, her method 2. -/
namespace start1
open Jvm.ClassFile
def u (s : String) : CpInfo := .utf8 (stringToUtf16 s)
/-- a pool by its gaps: so many unusable entries, then the entry; so many at the end -/
def gap : Nat → List CpInfo → List CpInfo
  | 0, r => r
  | n + 1, r => .unusable :: gap n r
def poolList (es : List (Nat × CpInfo)) (last : Nat) : List CpInfo := es.foldr (fun e r => gap e.1 (e.2 :: r)) (gap last [])
def pool (es : List (Nat × CpInfo)) (last : Nat) : Array CpInfo := ⟨poolList es last⟩
def fileOf (pool : Array CpInfo) (this : Nat) (attrs : Array Attribute := #[]) (ms : Array MethodInfo := #[]) (fl : Nat := 33) (sup : Nat := 0) (ifs : Array Nat := #[]) (fds : Array FieldInfo := #[]) : ClassFile where
  minorVersion := 0
  majorVersion := 65
  constantPool := pool
  accessFlags := fl
  thisClass := this
  superClass := sup
  interfaces := ifs
  fields := fds
  methods := ms
  attributes := attrs
def plain (name : String) (sup : Option ClassId) : Class where
  name := name
  kind := .ordinary
  loader := none
  accessFlags := 33
  super := sup
  interfaces := #[]
  cf := none
  fields := #[]
  methods := #[]
  instanceTypes := #[]
  staticTypes := #[]
  resolved := #[]
  callSites := []
  init := .initialized
  statics := none
  mirror := none

def pool0 : Array CpInfo := pool [(5, u "<init>"), (0, u "()V"), (1, .class_ 10), (1, u "java/lang/Object")] 113

def k0c0 : Code := { maxStack := 0, maxLocals := 1, code := object_method_1_code, exceptionTable := #[], attributes := #[] }
def k0m0 : Method := { name := "<init>", desc := "()V", sig := { parameters := [], returnType := none }, accessFlags := 1, code := some k0c0 }
/-- java/lang/Object -/
def k0 : Class := { plain "java/lang/Object" none with
  accessFlags := 33
  interfaces := #[]
  cf := some (fileOf pool0 8 #[] #[{ accessFlags := 1, nameIndex := 5, descriptorIndex := 6, attributes := #[] }] 33 0 #[] #[])
  fields := #[]
  methods := #[k0m0]
  instanceTypes := #[]
  staticTypes := #[]
  resolved := Array.replicate 124 none
  statics := none }

def pool1 : Array CpInfo := pool [(2, .class_ 4), (1, u "java/lang/Object"), (0, u "<init>"), (0, u "()V"), (0, .fieldref 8 9), (0, .class_ 10), (0, .nameAndType 11 12), (0, u "com/example/earnest_lease/earnestlease/protocol/Reply$Outcome"), (0, u "GRANTED"), (0, u "Lcom/example/earnest_lease/earnestlease/protocol/Reply$Outcome;"), (0, .fieldref 8 14), (0, .nameAndType 15 12), (0, u "HELD"), (0, .fieldref 8 17), (0, .nameAndType 18 12), (0, u "RENEWED"), (0, .fieldref 8 20), (0, .nameAndType 21 12), (0, u "RELEASED"), (0, .fieldref 8 23), (0, .nameAndType 24 12), (0, u "NOT_HELD"), (0, .fieldref 8 26), (0, .nameAndType 27 12), (0, u "REFUSED"), (0, .fieldref 8 29), (0, .nameAndType 30 12), (0, u "NO_LEADER"), (0, .fieldref 8 32), (0, .nameAndType 33 12), (0, u "QUEUED"), (0, .fieldref 8 35), (0, .nameAndType 36 12), (0, u "TAKEN"), (0, .integer 2147483647), (0, .methodref 39 40), (0, .class_ 41), (0, .nameAndType 42 43), (0, u "com/example/earnest_lease/earnestlease/protocol/ReplyOfPinLaw"), (0, u "pick"), (0, u "(I)Lcom/example/earnest_lease/earnestlease/protocol/Reply$Outcome;"), (0, .methodref 45 46), (0, .class_ 47), (0, .nameAndType 48 49), (0, u "com/example/earnest_lease/earnestlease/protocol/Reply"), (0, u "of"), (0, u "(Lcom/example/earnest_lease/earnestlease/protocol/Reply$Outcome;)Lcom/example/earnest_lease/earnestlease/protocol/Reply;"), (0, .methodref 45 51), (0, .nameAndType 52 53), (0, u "outcome"), (0, u "()Lcom/example/earnest_lease/earnestlease/protocol/Reply$Outcome;"), (0, .methodref 45 55), (0, .nameAndType 56 57), (0, u "token"), (0, u "()J"), (0, .methodref 45 59), (0, .nameAndType 60 61), (0, u "reason"), (0, u "()Ljava/lang/String;"), (0, .methodref 63 64), (0, .class_ 65), (0, .nameAndType 66 67), (0, u "java/lang/String"), (0, u "isEmpty"), (0, u "()Z"), (0, .methodref 45 69), (0, .nameAndType 70 67), (0, u "interim"), (3, u "law"), (0, u "(I)Z")] 4

def k1m0 : Method := { name := "<init>", desc := "()V", sig := { parameters := [], returnType := none }, accessFlags := 2, code := none }
def k1c1 : Code := { maxStack := 2, maxLocals := 1, code := method_2_code, exceptionTable := #[], attributes := #[] }
def k1m1 : Method := { name := "pick", desc := "(I)Lcom/example/earnest_lease/earnestlease/protocol/Reply$Outcome;", sig := { parameters := [.int], returnType := some (.object "com/example/earnest_lease/earnestlease/protocol/Reply$Outcome") }, accessFlags := 10, code := some k1c1 }
def k1c2 : Code := { maxStack := 4, maxLocals := 6, code := code, exceptionTable := #[], attributes := #[] }
def k1m2 : Method := { name := "law", desc := "(I)Z", sig := { parameters := [.int], returnType := some .boolean }, accessFlags := 9, code := some k1c2 }
/-- com/example/earnest_lease/earnestlease/protocol/ReplyOfPinLaw -/
def k1 : Class := { plain "com/example/earnest_lease/earnestlease/protocol/ReplyOfPinLaw" (some 0) with
  accessFlags := 49
  interfaces := #[]
  cf := some (fileOf pool1 39 #[] #[{ accessFlags := 2, nameIndex := 5, descriptorIndex := 6, attributes := #[] }, { accessFlags := 10, nameIndex := 42, descriptorIndex := 43, attributes := #[] }, { accessFlags := 9, nameIndex := 74, descriptorIndex := 75, attributes := #[] }] 49 2 #[] #[])
  fields := #[]
  methods := #[k1m0, k1m1, k1m2]
  instanceTypes := #[]
  staticTypes := #[]
  resolved := Array.replicate 80 none
  statics := none }

def pool2 : Array CpInfo := pool [(1, .class_ 2), (0, u "java/lang/constant/Constable"), (0, .class_ 4), (0, u "java/lang/Object")] 6

/-- java/lang/constant/Constable -/
def k2 : Class := { plain "java/lang/constant/Constable" (some 0) with
  accessFlags := 1537
  interfaces := #[]
  cf := some (fileOf pool2 1 #[] #[] 1537 3 #[] #[])
  fields := #[]
  methods := #[]
  instanceTypes := #[]
  staticTypes := #[]
  resolved := Array.replicate 11 none
  statics := none }

def pool3 : Array CpInfo := pool [(1, .class_ 2), (0, u "java/lang/Comparable"), (0, .class_ 4), (0, u "java/lang/Object")] 7

/-- java/lang/Comparable -/
def k3 : Class := { plain "java/lang/Comparable" (some 0) with
  accessFlags := 1537
  interfaces := #[]
  cf := some (fileOf pool3 1 #[] #[] 1537 3 #[] #[])
  fields := #[]
  methods := #[]
  instanceTypes := #[]
  staticTypes := #[]
  resolved := Array.replicate 12 none
  statics := none }

def pool4 : Array CpInfo := pool [(1, .class_ 2), (0, u "java/io/Serializable"), (0, .class_ 4), (0, u "java/lang/Object")] 2

/-- java/io/Serializable -/
def k4 : Class := { plain "java/io/Serializable" (some 0) with
  accessFlags := 1537
  interfaces := #[]
  cf := some (fileOf pool4 1 #[] #[] 1537 3 #[] #[])
  fields := #[]
  methods := #[]
  instanceTypes := #[]
  staticTypes := #[]
  resolved := Array.replicate 7 none
  statics := none }

def pool5 : Array CpInfo := pool [(2, .class_ 4), (1, u "java/lang/Enum"), (0, u "name"), (0, u "Ljava/lang/String;"), (2, u "ordinal"), (0, u "I"), (1, .class_ 14), (1, u "java/lang/Object"), (4, u "hash"), (86, .class_ 108), (1, u "java/lang/Enum$EnumDesc"), (2, .class_ 112), (0, u "java/lang/constant/Constable"), (0, .class_ 114), (0, u "java/lang/Comparable"), (0, .class_ 116), (0, u "java/io/Serializable")] 87

/-- java/lang/Enum -/
def k5 : Class := { plain "java/lang/Enum" (some 0) with
  accessFlags := 1057
  interfaces := #[2, 3, 4]
  cf := some (fileOf pool5 2 #[.nestMembers #[106]] #[] 1057 12 #[111, 113, 115] #[{ accessFlags := 18, nameIndex := 5, descriptorIndex := 6, attributes := #[] }, { accessFlags := 18, nameIndex := 9, descriptorIndex := 10, attributes := #[] }, { accessFlags := 2, nameIndex := 19, descriptorIndex := 10, attributes := #[] }])
  fields := #[{ name := "name", type := (.object "java/lang/String"), accessFlags := 18, slot := 0, constantValue := 0 }, { name := "ordinal", type := .int, accessFlags := 18, slot := 1, constantValue := 0 }, { name := "hash", type := .int, accessFlags := 2, slot := 2, constantValue := 0 }]
  methods := #[]
  instanceTypes := #[(.object "java/lang/String"), .int, .int]
  staticTypes := #[]
  resolved := Array.replicate 204 none
  statics := none }

def pool6 : Array CpInfo := pool [(1, .class_ 2), (0, u "com/example/earnest_lease/earnestlease/protocol/Reply$Outcome"), (2, u "GRANTED"), (0, u "Lcom/example/earnest_lease/earnestlease/protocol/Reply$Outcome;"), (2, u "HELD"), (2, u "RENEWED"), (2, u "RELEASED"), (2, u "NOT_HELD"), (2, u "REFUSED"), (2, u "NO_LEADER"), (2, u "QUEUED"), (2, u "TAKEN"), (2, u "$VALUES"), (0, u "[Lcom/example/earnest_lease/earnestlease/protocol/Reply$Outcome;"), (6, .class_ 43), (1, u "java/lang/Enum"), (8, u "code"), (0, u "I"), (29, .class_ 84), (0, u "com/example/earnest_lease/earnestlease/protocol/Reply")] 2

/-- com/example/earnest_lease/earnestlease/protocol/Reply$Outcome -/
def k6 : Class := { plain "com/example/earnest_lease/earnestlease/protocol/Reply$Outcome" (some 5) with
  accessFlags := 16433
  interfaces := #[]
  cf := some (fileOf pool6 1 #[.nestHost 83] #[] 16433 41 #[] #[{ accessFlags := 16409, nameIndex := 5, descriptorIndex := 6, attributes := #[] }, { accessFlags := 16409, nameIndex := 9, descriptorIndex := 6, attributes := #[] }, { accessFlags := 16409, nameIndex := 12, descriptorIndex := 6, attributes := #[] }, { accessFlags := 16409, nameIndex := 15, descriptorIndex := 6, attributes := #[] }, { accessFlags := 16409, nameIndex := 18, descriptorIndex := 6, attributes := #[] }, { accessFlags := 16409, nameIndex := 21, descriptorIndex := 6, attributes := #[] }, { accessFlags := 16409, nameIndex := 24, descriptorIndex := 6, attributes := #[] }, { accessFlags := 16409, nameIndex := 27, descriptorIndex := 6, attributes := #[] }, { accessFlags := 16409, nameIndex := 30, descriptorIndex := 6, attributes := #[] }, { accessFlags := 16, nameIndex := 52, descriptorIndex := 53, attributes := #[] }, { accessFlags := 4122, nameIndex := 33, descriptorIndex := 34, attributes := #[] }])
  fields := #[{ name := "GRANTED", type := (.object "com/example/earnest_lease/earnestlease/protocol/Reply$Outcome"), accessFlags := 16409, slot := 0, constantValue := 0 }, { name := "HELD", type := (.object "com/example/earnest_lease/earnestlease/protocol/Reply$Outcome"), accessFlags := 16409, slot := 1, constantValue := 0 }, { name := "RENEWED", type := (.object "com/example/earnest_lease/earnestlease/protocol/Reply$Outcome"), accessFlags := 16409, slot := 2, constantValue := 0 }, { name := "RELEASED", type := (.object "com/example/earnest_lease/earnestlease/protocol/Reply$Outcome"), accessFlags := 16409, slot := 3, constantValue := 0 }, { name := "NOT_HELD", type := (.object "com/example/earnest_lease/earnestlease/protocol/Reply$Outcome"), accessFlags := 16409, slot := 4, constantValue := 0 }, { name := "REFUSED", type := (.object "com/example/earnest_lease/earnestlease/protocol/Reply$Outcome"), accessFlags := 16409, slot := 5, constantValue := 0 }, { name := "NO_LEADER", type := (.object "com/example/earnest_lease/earnestlease/protocol/Reply$Outcome"), accessFlags := 16409, slot := 6, constantValue := 0 }, { name := "QUEUED", type := (.object "com/example/earnest_lease/earnestlease/protocol/Reply$Outcome"), accessFlags := 16409, slot := 7, constantValue := 0 }, { name := "TAKEN", type := (.object "com/example/earnest_lease/earnestlease/protocol/Reply$Outcome"), accessFlags := 16409, slot := 8, constantValue := 0 }, { name := "code", type := .int, accessFlags := 16, slot := 3, constantValue := 0 }, { name := "$VALUES", type := (.array (.object "com/example/earnest_lease/earnestlease/protocol/Reply$Outcome")), accessFlags := 4122, slot := 9, constantValue := 0 }]
  methods := #[]
  instanceTypes := #[(.object "java/lang/String"), .int, .int, .int]
  staticTypes := #[(.object "com/example/earnest_lease/earnestlease/protocol/Reply$Outcome"), (.object "com/example/earnest_lease/earnestlease/protocol/Reply$Outcome"), (.object "com/example/earnest_lease/earnestlease/protocol/Reply$Outcome"), (.object "com/example/earnest_lease/earnestlease/protocol/Reply$Outcome"), (.object "com/example/earnest_lease/earnestlease/protocol/Reply$Outcome"), (.object "com/example/earnest_lease/earnestlease/protocol/Reply$Outcome"), (.object "com/example/earnest_lease/earnestlease/protocol/Reply$Outcome"), (.object "com/example/earnest_lease/earnestlease/protocol/Reply$Outcome"), (.object "com/example/earnest_lease/earnestlease/protocol/Reply$Outcome"), (.array (.object "com/example/earnest_lease/earnestlease/protocol/Reply$Outcome"))]
  resolved := Array.replicate 87 none
  statics := some 0 }

def pool7 : Array CpInfo := pool [(1, .methodref 2 3), (0, .class_ 4), (0, .nameAndType 5 6), (0, u "java/lang/Object"), (0, u "<init>"), (0, u "()V"), (0, .class_ 8), (0, u "java/lang/Record")] 13

def k7c0 : Code := { maxStack := 1, maxLocals := 1, code := jdk_30_method_1_code, exceptionTable := #[], attributes := #[] }
def k7m0 : Method := { name := "<init>", desc := "()V", sig := { parameters := [], returnType := none }, accessFlags := 4, code := some k7c0 }
/-- java/lang/Record -/
def k7 : Class := { plain "java/lang/Record" (some 0) with
  accessFlags := 1057
  interfaces := #[]
  cf := some (fileOf pool7 7 #[] #[{ accessFlags := 4, nameIndex := 5, descriptorIndex := 6, attributes := #[] }] 1057 2 #[] #[])
  fields := #[]
  methods := #[k7m0]
  instanceTypes := #[]
  staticTypes := #[]
  resolved := Array.replicate 22 none
  statics := none }

def pool8 : Array CpInfo := pool [(1, .class_ 2), (0, u "com/example/earnest_lease/earnestlease/protocol/Answer"), (0, .class_ 4), (0, u "java/lang/Object"), (3, .class_ 9), (0, u "com/example/earnest_lease/earnestlease/protocol/Answer$SnapshotResult"), (0, .class_ 11), (0, u "com/example/earnest_lease/earnestlease/protocol/Answer$AppendResult"), (0, .class_ 13), (0, u "com/example/earnest_lease/earnestlease/protocol/Answer$VoteResult"), (0, .class_ 15), (0, u "com/example/earnest_lease/earnestlease/protocol/Answer$NodeStatus"), (0, .class_ 17), (0, u "com/example/earnest_lease/earnestlease/protocol/Answer$NodeStatus$Group")] 9

/-- com/example/earnest_lease/earnestlease/protocol/Answer -/
def k8 : Class := { plain "com/example/earnest_lease/earnestlease/protocol/Answer" (some 0) with
  accessFlags := 1537
  interfaces := #[]
  cf := some (fileOf pool8 1 #[.nestMembers #[8, 10, 12, 14, 16]] #[] 1537 3 #[] #[])
  fields := #[]
  methods := #[]
  instanceTypes := #[]
  staticTypes := #[]
  resolved := Array.replicate 27 none
  statics := none }

def pool9 : Array CpInfo := pool [(1, .methodref 2 3), (0, .class_ 4), (0, .nameAndType 5 6), (0, u "java/lang/Record"), (0, u "<init>"), (0, u "()V"), (0, .fieldref 8 9), (0, .class_ 10), (0, .nameAndType 11 12), (0, u "com/example/earnest_lease/earnestlease/protocol/Reply"), (0, u "outcome"), (0, u "Lcom/example/earnest_lease/earnestlease/protocol/Reply$Outcome;"), (0, .fieldref 8 14), (0, .nameAndType 15 16), (0, u "token"), (0, u "J"), (0, .fieldref 8 18), (0, .nameAndType 19 20), (0, u "reason"), (0, u "Ljava/lang/String;"), (0, .fieldref 22 23), (0, .class_ 24), (0, .nameAndType 25 12), (0, u "com/example/earnest_lease/earnestlease/protocol/Reply$Outcome"), (0, u "QUEUED"), (3, .string 30), (0, u ""), (0, .methodref 8 32), (0, .nameAndType 5 33), (0, u "(Lcom/example/earnest_lease/earnestlease/protocol/Reply$Outcome;JLjava/lang/String;)V"), (15, .class_ 50), (0, u "com/example/earnest_lease/earnestlease/protocol/Answer"), (3, u "interim"), (0, u "()Z"), (3, u "of"), (0, u "(Lcom/example/earnest_lease/earnestlease/protocol/Reply$Outcome;)Lcom/example/earnest_lease/earnestlease/protocol/Reply;"), (2, u "()Ljava/lang/String;"), (2, u "()Lcom/example/earnest_lease/earnestlease/protocol/Reply$Outcome;"), (0, u "()J")] 24

def k9c0 : Code := { maxStack := 3, maxLocals := 5, code := prog_50_method_1_code, exceptionTable := #[], attributes := #[] }
def k9m0 : Method := { name := "<init>", desc := "(Lcom/example/earnest_lease/earnestlease/protocol/Reply$Outcome;JLjava/lang/String;)V", sig := { parameters := [(.object "com/example/earnest_lease/earnestlease/protocol/Reply$Outcome"), .long, (.object "java/lang/String")], returnType := none }, accessFlags := 1, code := some k9c0 }
def k9c1 : Code := { maxStack := 2, maxLocals := 1, code := prog_50_method_2_code, exceptionTable := #[], attributes := #[] }
def k9m1 : Method := { name := "interim", desc := "()Z", sig := { parameters := [], returnType := some .boolean }, accessFlags := 1, code := some k9c1 }
def k9c2 : Code := { maxStack := 6, maxLocals := 1, code := prog_50_method_4_code, exceptionTable := #[], attributes := #[] }
def k9m2 : Method := { name := "of", desc := "(Lcom/example/earnest_lease/earnestlease/protocol/Reply$Outcome;)Lcom/example/earnest_lease/earnestlease/protocol/Reply;", sig := { parameters := [(.object "com/example/earnest_lease/earnestlease/protocol/Reply$Outcome")], returnType := some (.object "com/example/earnest_lease/earnestlease/protocol/Reply") }, accessFlags := 9, code := some k9c2 }
def k9c3 : Code := { maxStack := 1, maxLocals := 1, code := prog_50_method_9_code, exceptionTable := #[], attributes := #[] }
def k9m3 : Method := { name := "outcome", desc := "()Lcom/example/earnest_lease/earnestlease/protocol/Reply$Outcome;", sig := { parameters := [], returnType := some (.object "com/example/earnest_lease/earnestlease/protocol/Reply$Outcome") }, accessFlags := 1, code := some k9c3 }
def k9c4 : Code := { maxStack := 2, maxLocals := 1, code := prog_50_method_10_code, exceptionTable := #[], attributes := #[] }
def k9m4 : Method := { name := "token", desc := "()J", sig := { parameters := [], returnType := some .long }, accessFlags := 1, code := some k9c4 }
def k9c5 : Code := { maxStack := 1, maxLocals := 1, code := prog_50_method_11_code, exceptionTable := #[], attributes := #[] }
def k9m5 : Method := { name := "reason", desc := "()Ljava/lang/String;", sig := { parameters := [], returnType := some (.object "java/lang/String") }, accessFlags := 1, code := some k9c5 }
/-- com/example/earnest_lease/earnestlease/protocol/Reply -/
def k9 : Class := { plain "com/example/earnest_lease/earnestlease/protocol/Reply" (some 7) with
  accessFlags := 49
  interfaces := #[8]
  cf := some (fileOf pool9 8 #[.nestMembers #[22]] #[{ accessFlags := 1, nameIndex := 5, descriptorIndex := 33, attributes := #[] }, { accessFlags := 1, nameIndex := 54, descriptorIndex := 55, attributes := #[] }, { accessFlags := 9, nameIndex := 59, descriptorIndex := 60, attributes := #[] }, { accessFlags := 1, nameIndex := 11, descriptorIndex := 66, attributes := #[] }, { accessFlags := 1, nameIndex := 15, descriptorIndex := 67, attributes := #[] }, { accessFlags := 1, nameIndex := 19, descriptorIndex := 63, attributes := #[] }] 49 2 #[49] #[{ accessFlags := 18, nameIndex := 11, descriptorIndex := 12, attributes := #[] }, { accessFlags := 18, nameIndex := 15, descriptorIndex := 16, attributes := #[] }, { accessFlags := 18, nameIndex := 19, descriptorIndex := 20, attributes := #[] }])
  fields := #[{ name := "outcome", type := (.object "com/example/earnest_lease/earnestlease/protocol/Reply$Outcome"), accessFlags := 18, slot := 0, constantValue := 0 }, { name := "token", type := .long, accessFlags := 18, slot := 1, constantValue := 0 }, { name := "reason", type := (.object "java/lang/String"), accessFlags := 18, slot := 2, constantValue := 0 }]
  methods := #[k9m0, k9m1, k9m2, k9m3, k9m4, k9m5]
  instanceTypes := #[(.object "com/example/earnest_lease/earnestlease/protocol/Reply$Outcome"), .long, (.object "java/lang/String")]
  staticTypes := #[]
  resolved := Array.replicate 92 none
  statics := none }

def pool10 : Array CpInfo := pool [(2, .class_ 4), (1, u "java/lang/CharSequence"), (42, .class_ 48), (0, u "java/lang/CharSequence$1CodePointIterator"), (10, .class_ 60), (0, u "java/lang/CharSequence$1CharIterator"), (5, .class_ 67), (0, u "java/lang/Object")] 63

/-- java/lang/CharSequence -/
def k10 : Class := { plain "java/lang/CharSequence" (some 0) with
  accessFlags := 1537
  interfaces := #[]
  cf := some (fileOf pool10 2 #[.nestMembers #[47, 59]] #[] 1537 66 #[] #[])
  fields := #[]
  methods := #[]
  instanceTypes := #[]
  staticTypes := #[]
  resolved := Array.replicate 131 none
  statics := none }

def pool11 : Array CpInfo := pool [(1, .class_ 2), (0, u "java/lang/constant/ConstantDesc"), (0, .class_ 4), (0, u "java/lang/Object")] 32

/-- java/lang/constant/ConstantDesc -/
def k11 : Class := { plain "java/lang/constant/ConstantDesc" (some 0) with
  accessFlags := 1537
  interfaces := #[]
  cf := some (fileOf pool11 1 #[] #[] 1537 3 #[] #[])
  fields := #[]
  methods := #[]
  instanceTypes := #[]
  staticTypes := #[]
  resolved := Array.replicate 37 none
  statics := none }

def pool12 : Array CpInfo := pool [(2, .class_ 4), (1, u "java/lang/Object"), (0, u "<init>"), (0, u "()V"), (2, .fieldref 10 11), (0, .class_ 12), (0, .nameAndType 13 14), (0, u "java/lang/String"), (0, u "value"), (0, u "[B"), (2, u "coder"), (0, u "B"), (2, u "hash"), (0, u "I"), (2, u "hashIsZero"), (0, u "Z"), (13, u "COMPACT_STRINGS"), (101, u "()Z"), (432, .class_ 576), (0, u "java/lang/CharSequence"), (22, u "CASE_INSENSITIVE_ORDER"), (0, u "Ljava/util/Comparator;"), (91, u "isEmpty"), (408, u "serialPersistentFields"), (0, u "[Ljava/io/ObjectStreamField;"), (0, .class_ 1104), (0, u "java/lang/String$CaseInsensitiveComparator"), (1, .class_ 1107), (0, u "java/io/Serializable"), (0, .class_ 1109), (0, u "java/lang/Comparable"), (0, .class_ 1111), (0, u "java/lang/constant/Constable"), (0, .class_ 1113), (0, u "java/lang/constant/ConstantDesc"), (2, u "serialVersionUID"), (0, u "J"), (3, u "REPL"), (0, u "C"), (2, u "LATIN1"), (1, u "UTF16")] 323

def k12m0 : Method := { name := "<init>", desc := "()V", sig := { parameters := [], returnType := none }, accessFlags := 1, code := none }
def k12c1 : Code := { maxStack := 1, maxLocals := 1, code := jdk_42_method_55_code, exceptionTable := #[], attributes := #[] }
def k12m1 : Method := { name := "isEmpty", desc := "()Z", sig := { parameters := [], returnType := some .boolean }, accessFlags := 1, code := some k12c1 }
/-- java/lang/String -/
def k12 : Class := { plain "java/lang/String" (some 0) with
  accessFlags := 49
  interfaces := #[4, 3, 10, 2, 11]
  cf := some (fileOf pool12 10 #[.nestMembers #[1103]] #[{ accessFlags := 1, nameIndex := 5, descriptorIndex := 6, attributes := #[] }, { accessFlags := 1, nameIndex := 692, descriptorIndex := 142, attributes := #[] }] 49 2 #[1106, 1108, 575, 1110, 1112] #[{ accessFlags := 18, nameIndex := 13, descriptorIndex := 14, attributes := #[] }, { accessFlags := 18, nameIndex := 17, descriptorIndex := 18, attributes := #[] }, { accessFlags := 2, nameIndex := 21, descriptorIndex := 22, attributes := #[] }, { accessFlags := 2, nameIndex := 25, descriptorIndex := 26, attributes := #[] }, { accessFlags := 26, nameIndex := 1116, descriptorIndex := 1117, attributes := #[] }, { accessFlags := 24, nameIndex := 40, descriptorIndex := 26, attributes := #[] }, { accessFlags := 26, nameIndex := 1101, descriptorIndex := 1102, attributes := #[] }, { accessFlags := 26, nameIndex := 1121, descriptorIndex := 1122, attributes := #[] }, { accessFlags := 25, nameIndex := 599, descriptorIndex := 600, attributes := #[] }, { accessFlags := 24, nameIndex := 1125, descriptorIndex := 18, attributes := #[] }, { accessFlags := 24, nameIndex := 1127, descriptorIndex := 18, attributes := #[] }])
  fields := #[{ name := "value", type := (.array .byte), accessFlags := 18, slot := 0, constantValue := 0 }, { name := "coder", type := .byte, accessFlags := 18, slot := 1, constantValue := 0 }, { name := "hash", type := .int, accessFlags := 2, slot := 2, constantValue := 0 }, { name := "hashIsZero", type := .boolean, accessFlags := 2, slot := 3, constantValue := 0 }, { name := "serialVersionUID", type := .long, accessFlags := 26, slot := 0, constantValue := 0 }, { name := "COMPACT_STRINGS", type := .boolean, accessFlags := 24, slot := 1, constantValue := 0 }, { name := "serialPersistentFields", type := (.array (.object "java/io/ObjectStreamField")), accessFlags := 26, slot := 2, constantValue := 0 }, { name := "REPL", type := .char, accessFlags := 26, slot := 3, constantValue := 0 }, { name := "CASE_INSENSITIVE_ORDER", type := (.object "java/util/Comparator"), accessFlags := 25, slot := 4, constantValue := 0 }, { name := "LATIN1", type := .byte, accessFlags := 24, slot := 5, constantValue := 0 }, { name := "UTF16", type := .byte, accessFlags := 24, slot := 6, constantValue := 0 }]
  methods := #[k12m0, k12m1]
  instanceTypes := #[(.array .byte), .byte, .int, .boolean]
  staticTypes := #[.long, .boolean, (.array (.object "java/io/ObjectStreamField")), .char, (.object "java/util/Comparator"), .byte, .byte]
  resolved := Array.replicate 1451 none
  statics := some 1 }

def pool13 : Array CpInfo := pool [(4, .class_ 6), (1, u "java/lang/Object"), (0, u "<init>"), (0, u "()V"), (5, .class_ 16), (1, u "java/lang/StringLatin1"), (104, u "$assertionsDisabled"), (0, u "Z"), (98, .class_ 223), (1, u "java/lang/StringLatin1$LinesSpliterator"), (166, .class_ 391), (0, u "java/lang/StringLatin1$CharsSpliterator")] 3

def k13m0 : Method := { name := "<init>", desc := "()V", sig := { parameters := [], returnType := none }, accessFlags := 0, code := none }
/-- java/lang/StringLatin1 -/
def k13 : Class := { plain "java/lang/StringLatin1" (some 0) with
  accessFlags := 48
  interfaces := #[]
  cf := some (fileOf pool13 14 #[.nestMembers #[390, 221]] #[{ accessFlags := 0, nameIndex := 7, descriptorIndex := 8, attributes := #[] }] 48 4 #[] #[{ accessFlags := 4120, nameIndex := 121, descriptorIndex := 122, attributes := #[] }])
  fields := #[{ name := "$assertionsDisabled", type := .boolean, accessFlags := 4120, slot := 0, constantValue := 0 }]
  methods := #[k13m0]
  instanceTypes := #[]
  staticTypes := #[.boolean]
  resolved := Array.replicate 395 none
  statics := none }

def pool14 : Array CpInfo := pool [(2, .class_ 4), (1, u "java/lang/Object"), (0, u "<init>"), (0, u "()V"), (17, .class_ 26), (1, u "jdk/internal/util/Preconditions"), (28, .class_ 56), (0, u "jdk/internal/util/Preconditions$4"), (57, .class_ 115), (0, u "jdk/internal/util/Preconditions$1"), (7, u "SIOOBE_FORMATTER"), (0, u "Ljava/util/function/BiFunction;"), (0, .class_ 126), (0, u "jdk/internal/util/Preconditions$2"), (3, u "AIOOBE_FORMATTER"), (0, .class_ 132), (0, u "jdk/internal/util/Preconditions$3"), (3, u "IOOBE_FORMATTER")] 57

def k14m0 : Method := { name := "<init>", desc := "()V", sig := { parameters := [], returnType := none }, accessFlags := 1, code := none }
/-- jdk/internal/util/Preconditions -/
def k14 : Class := { plain "jdk/internal/util/Preconditions" (some 0) with
  accessFlags := 33
  interfaces := #[]
  cf := some (fileOf pool14 24 #[.nestMembers #[55, 131, 125, 114]] #[{ accessFlags := 1, nameIndex := 5, descriptorIndex := 6, attributes := #[] }] 33 2 #[] #[{ accessFlags := 25, nameIndex := 123, descriptorIndex := 124, attributes := #[] }, { accessFlags := 25, nameIndex := 130, descriptorIndex := 124, attributes := #[] }, { accessFlags := 25, nameIndex := 136, descriptorIndex := 124, attributes := #[] }])
  fields := #[{ name := "SIOOBE_FORMATTER", type := (.object "java/util/function/BiFunction"), accessFlags := 25, slot := 0, constantValue := 0 }, { name := "AIOOBE_FORMATTER", type := (.object "java/util/function/BiFunction"), accessFlags := 25, slot := 1, constantValue := 0 }, { name := "IOOBE_FORMATTER", type := (.object "java/util/function/BiFunction"), accessFlags := 25, slot := 2, constantValue := 0 }]
  methods := #[k14m0]
  instanceTypes := #[]
  staticTypes := #[(.object "java/util/function/BiFunction"), (.object "java/util/function/BiFunction"), (.object "java/util/function/BiFunction")]
  resolved := Array.replicate 194 none
  statics := some 2 }

def pool15 : Array CpInfo := pool [(9, u "<init>"), (6, .class_ 18), (1, u "java/lang/Object"), (0, u "()V"), (1, .class_ 23), (1, u "jdk/internal/util/ArraysSupport"), (0, u "LOG2_ARRAY_LONG_INDEX_SCALE"), (0, u "I"), (2, u "U"), (0, u "Ljdk/internal/misc/Unsafe;"), (8, u "BIG_ENDIAN"), (0, u "Z"), (8, u "LOG2_BYTE_BIT_SIZE"), (4, u "LOG2_ARRAY_INT_INDEX_SCALE"), (54, u "JLA"), (0, u "Ljdk/internal/access/JavaLangAccess;"), (11, u "LOG2_ARRAY_BOOLEAN_INDEX_SCALE"), (9, u "LOG2_ARRAY_BYTE_INDEX_SCALE"), (5, u "LOG2_ARRAY_CHAR_INDEX_SCALE"), (5, u "LOG2_ARRAY_SHORT_INDEX_SCALE"), (18, u "LOG2_ARRAY_FLOAT_INDEX_SCALE"), (24, u "LOG2_ARRAY_DOUBLE_INDEX_SCALE"), (89, u "T_BOOLEAN"), (2, u "T_CHAR"), (1, u "T_FLOAT"), (1, u "T_DOUBLE"), (1, u "T_BYTE"), (1, u "T_SHORT"), (1, u "T_INT"), (1, u "T_LONG"), (1, u "SOFT_MAX_ARRAY_LENGTH")] 83

def k15m0 : Method := { name := "<init>", desc := "()V", sig := { parameters := [], returnType := none }, accessFlags := 2, code := none }
/-- jdk/internal/util/ArraysSupport -/
def k15 : Class := { plain "jdk/internal/util/ArraysSupport" (some 0) with
  accessFlags := 33
  interfaces := #[]
  cf := some (fileOf pool15 21 #[] #[{ accessFlags := 2, nameIndex := 9, descriptorIndex := 19, attributes := #[] }] 33 16 #[] #[{ accessFlags := 24, nameIndex := 28, descriptorIndex := 29, attributes := #[] }, { accessFlags := 26, nameIndex := 38, descriptorIndex := 39, attributes := #[] }, { accessFlags := 25, nameIndex := 121, descriptorIndex := 25, attributes := #[] }, { accessFlags := 25, nameIndex := 131, descriptorIndex := 25, attributes := #[] }, { accessFlags := 25, nameIndex := 137, descriptorIndex := 25, attributes := #[] }, { accessFlags := 25, nameIndex := 143, descriptorIndex := 25, attributes := #[] }, { accessFlags := 25, nameIndex := 53, descriptorIndex := 25, attributes := #[] }, { accessFlags := 25, nameIndex := 24, descriptorIndex := 25, attributes := #[] }, { accessFlags := 25, nameIndex := 162, descriptorIndex := 25, attributes := #[] }, { accessFlags := 25, nameIndex := 187, descriptorIndex := 25, attributes := #[] }, { accessFlags := 26, nameIndex := 48, descriptorIndex := 25, attributes := #[] }, { accessFlags := 25, nameIndex := 277, descriptorIndex := 25, attributes := #[] }, { accessFlags := 25, nameIndex := 280, descriptorIndex := 25, attributes := #[] }, { accessFlags := 25, nameIndex := 282, descriptorIndex := 25, attributes := #[] }, { accessFlags := 25, nameIndex := 284, descriptorIndex := 25, attributes := #[] }, { accessFlags := 25, nameIndex := 286, descriptorIndex := 25, attributes := #[] }, { accessFlags := 25, nameIndex := 288, descriptorIndex := 25, attributes := #[] }, { accessFlags := 25, nameIndex := 290, descriptorIndex := 25, attributes := #[] }, { accessFlags := 25, nameIndex := 292, descriptorIndex := 25, attributes := #[] }, { accessFlags := 26, nameIndex := 108, descriptorIndex := 109, attributes := #[] }, { accessFlags := 25, nameIndex := 294, descriptorIndex := 25, attributes := #[] }])
  fields := #[{ name := "U", type := (.object "jdk/internal/misc/Unsafe"), accessFlags := 24, slot := 0, constantValue := 0 }, { name := "BIG_ENDIAN", type := .boolean, accessFlags := 26, slot := 1, constantValue := 0 }, { name := "LOG2_ARRAY_BOOLEAN_INDEX_SCALE", type := .int, accessFlags := 25, slot := 2, constantValue := 0 }, { name := "LOG2_ARRAY_BYTE_INDEX_SCALE", type := .int, accessFlags := 25, slot := 3, constantValue := 0 }, { name := "LOG2_ARRAY_CHAR_INDEX_SCALE", type := .int, accessFlags := 25, slot := 4, constantValue := 0 }, { name := "LOG2_ARRAY_SHORT_INDEX_SCALE", type := .int, accessFlags := 25, slot := 5, constantValue := 0 }, { name := "LOG2_ARRAY_INT_INDEX_SCALE", type := .int, accessFlags := 25, slot := 6, constantValue := 0 }, { name := "LOG2_ARRAY_LONG_INDEX_SCALE", type := .int, accessFlags := 25, slot := 7, constantValue := 0 }, { name := "LOG2_ARRAY_FLOAT_INDEX_SCALE", type := .int, accessFlags := 25, slot := 8, constantValue := 0 }, { name := "LOG2_ARRAY_DOUBLE_INDEX_SCALE", type := .int, accessFlags := 25, slot := 9, constantValue := 0 }, { name := "LOG2_BYTE_BIT_SIZE", type := .int, accessFlags := 26, slot := 10, constantValue := 0 }, { name := "T_BOOLEAN", type := .int, accessFlags := 25, slot := 11, constantValue := 0 }, { name := "T_CHAR", type := .int, accessFlags := 25, slot := 12, constantValue := 0 }, { name := "T_FLOAT", type := .int, accessFlags := 25, slot := 13, constantValue := 0 }, { name := "T_DOUBLE", type := .int, accessFlags := 25, slot := 14, constantValue := 0 }, { name := "T_BYTE", type := .int, accessFlags := 25, slot := 15, constantValue := 0 }, { name := "T_SHORT", type := .int, accessFlags := 25, slot := 16, constantValue := 0 }, { name := "T_INT", type := .int, accessFlags := 25, slot := 17, constantValue := 0 }, { name := "T_LONG", type := .int, accessFlags := 25, slot := 18, constantValue := 0 }, { name := "JLA", type := (.object "jdk/internal/access/JavaLangAccess"), accessFlags := 26, slot := 19, constantValue := 0 }, { name := "SOFT_MAX_ARRAY_LENGTH", type := .int, accessFlags := 25, slot := 20, constantValue := 0 }]
  methods := #[k15m0]
  instanceTypes := #[]
  staticTypes := #[(.object "jdk/internal/misc/Unsafe"), .boolean, .int, .int, .int, .int, .int, .int, .int, .int, .int, .int, .int, .int, .int, .int, .int, .int, .int, (.object "jdk/internal/access/JavaLangAccess"), .int]
  resolved := Array.replicate 378 none
  statics := none }

def pool16 : Array CpInfo := pool [(1, u "java/lang/Cloneable"), (0, .class_ 1), (0, u "java/lang/Object"), (0, .class_ 3)] 3

/-- java/lang/Cloneable -/
def k16 : Class := { plain "java/lang/Cloneable" (some 0) with
  accessFlags := 1537
  interfaces := #[]
  cf := some (fileOf pool16 2 #[] #[] 1537 4 #[] #[])
  fields := #[]
  methods := #[]
  instanceTypes := #[]
  staticTypes := #[]
  resolved := Array.replicate 8 none
  statics := none }

/-- the primitive byte -/
def k17 : Class := { plain "byte" none with kind := .primitive 'B', accessFlags := 0x411 }
/-- [B -/
def k18 : Class := { plain "[B" (some 0) with kind := .array 17 .byte, interfaces := #[16, 4], accessFlags := 1041 }

/-- the primitive int -/
def k19 : Class := { plain "int" none with kind := .primitive 'I', accessFlags := 0x411 }
/-- [I -/
def k20 : Class := { plain "[I" (some 0) with kind := .array 19 .int, interfaces := #[16, 4], accessFlags := 1041 }

def heap : Heap := #[{ cls := 6, slots := #[.ref 3, .ref 7, .ref 6, .ref 5, .ref 8, .ref 11, .ref 10, .ref 4, .ref 9, .null], vm := .statics 6 },
  { cls := 12, slots := #[.long 0, .int 1, .null, .int 0, .null, .int 0, .int 0], vm := .statics 12 },
  { cls := 14, slots := #[.null, .null, .null], vm := .statics 14 },
  { cls := 6, slots := #[.null, .int 0, .int 0, .int 0], vm := .none },
  { cls := 6, slots := #[.null, .int 7, .int 0, .int 0], vm := .none },
  { cls := 6, slots := #[.null, .int 3, .int 0, .int 0], vm := .none },
  { cls := 6, slots := #[.null, .int 2, .int 0, .int 0], vm := .none },
  { cls := 6, slots := #[.null, .int 1, .int 0, .int 0], vm := .none },
  { cls := 6, slots := #[.null, .int 4, .int 0, .int 0], vm := .none },
  { cls := 6, slots := #[.null, .int 8, .int 0, .int 0], vm := .none },
  { cls := 6, slots := #[.null, .int 6, .int 0, .int 0], vm := .none },
  { cls := 6, slots := #[.null, .int 5, .int 0, .int 0], vm := .none }]
def classes : Array Class := #[k0, k1, k2, k3, k4, k5, k6, k7, k8, k9, k10, k11, k12, k13, k14, k15, k16, k17, k18, k19, k20]
def interned : List (Array UInt16 × Addr) := []
def slotsUsed : Nat := 56
def theMethod : MethodId := ⟨1, 2⟩
def args0 : Array Value := #[.int 5]
def aboutOver (below : List Frame) : State where
  vm := { classes := classes, interned := interned.toArray }
  heap := heap
  slotsUsed := slotsUsed
  threads := #[{ frames := .invoking theMethod args0 :: below }]
def below0 : List Frame := [.native { method := ⟨0, 0⟩, args := #[] }]
def about1 : State := aboutOver below0
def p0 : Program := .bare "" "" ""
def e0 : Env := launch0.env 0 0 0
theorem w_frames : about1.frames = Frame.invoking theMethod args0 :: below0 := rfl
set_option maxRecDepth 65536 in
theorem w_args : argsFit about1.vm theMethod args0 = true := by decide +kernel
set_option maxRecDepth 65536 in
theorem w_heap : heapFits about1 = true := by decide +kernel
set_option maxRecDepth 65536 in
theorem w_runnable : about1.curStatus? = some .runnable := by decide +kernel
set_option maxRecDepth 65536 in
theorem w_alone : about1.alone = true := by decide +kernel
set_option maxRecDepth 65536 in
theorem w_named : about1.methodNamed? x = some theMethod := by decide +kernel
set_option maxRecDepth 65536 in
theorem w_hears : about1.hears theMethod below0 = true := by decide +kernel
set_option maxRecDepth 65536 in
theorem w_ripe : about1.ripe theMethod args0 below0 = true := by decide +kernel
theorem w_running : about1.status = .running := rfl
set_option maxRecDepth 65536 in
theorem w_room : about1.hasRoom e0.platform room_1 = true :=
  launch0.hasRoom_least _ room_1 (by decide +kernel) (by decide +kernel) (by decide +kernel) (by decide +kernel) (by decide +kernel) (by decide +kernel)
theorem allAtoms_all (ts : List Jvm.Cond) (a : Array Jvm.Value) (st : Jvm.State) : (allAtoms ts).before a st = ts.all (fun c => c.before a st) := by
  induction ts with
  | nil => rfl
  | cons c t ih =>
    show (Jvm.Cond.and c (allAtoms t)).before a st = _
    rw [Jvm.Cond.before_and, ih, List.all_cons]
def words1 : List Jvm.Cond := Jvm.Cond.code x code maxLocals ret :: tables_1
/-- a 'code' word, met by the world's own term for the bytes: nothing is compared byte by byte -/
theorem code_word {y : MethodName} {bytes : ByteArray} {mx : Nat} {rt : Option FieldType} {a : Array Value} {s : State} {m : MethodId} {meth : Method} {c : Code} (h1 : s.methodNamed? y = some m) (h2 : s.vm.method? m = some meth) (h3 : meth.code = some c) (h4 : c.code = bytes)
    (h5 : (c.maxLocals == mx && c.exceptionTable.isEmpty && decide (c.maxStack ≤ mostOperands) && decide (meth.sig.returnType = rt) && !meth.locks && decide (parseMethodDescriptor y.desc = some meth.sig)) = true) : (Jvm.Cond.code y bytes mx rt).before a s = true := by
  simp only [Bool.and_eq_true, beq_iff_eq, Bool.not_eq_true', decide_eq_true_eq] at h5
  obtain ⟨⟨⟨⟨⟨g1, g2⟩, g3⟩, g4⟩, g5⟩, g6⟩ := h5
  simp [Cond.before, Cond.holds, Cond.value, h1, h2, h3, h4, g1, g2, g3, g4, g5, g6]
def isCode : Jvm.Cond → Bool
  | .code _ _ _ _ => true
  | _ => false
theorem all_split {L : List Jvm.Cond} {P : Jvm.Cond → Bool} (h1 : L.all (fun c => isCode c || P c) = true) (h2 : ∀ c ∈ L.filter isCode, P c = true) : L.all P = true := by
  refine List.all_eq_true.mpr fun c hc => ?_
  have h := List.all_eq_true.mp h1 c hc
  rcases Bool.eq_false_or_eq_true (isCode c) with hi | hi
  · exact h2 c (List.mem_filter.mpr ⟨hc, hi⟩)
  · simpa [hi] using h
set_option maxRecDepth 65536 in
theorem w_c0 : (Jvm.Cond.code x code maxLocals ret).before args0 about1 = true := code_word (m := ⟨1, 2⟩) (meth := k1m2) (c := k1c2) (by decide +kernel) rfl rfl rfl (by decide +kernel)
set_option maxRecDepth 65536 in
theorem w_c1 : (Jvm.Cond.code ({ cls := "com/example/earnest_lease/earnestlease/protocol/ReplyOfPinLaw", name := "pick", desc := "(I)Lcom/example/earnest_lease/earnestlease/protocol/Reply$Outcome;" } : Jvm.MethodName) method_2_code (1 : Nat) (Option.some (Jvm.ClassFile.FieldType.object "com/example/earnest_lease/earnestlease/protocol/Reply$Outcome"))).before args0 about1 = true := code_word (m := ⟨1, 1⟩) (meth := k1m1) (c := k1c1) (by decide +kernel) rfl rfl rfl (by decide +kernel)
set_option maxRecDepth 65536 in
theorem w_c2 : (Jvm.Cond.code ({ cls := "com/example/earnest_lease/earnestlease/protocol/Reply", name := "of", desc := "(Lcom/example/earnest_lease/earnestlease/protocol/Reply$Outcome;)Lcom/example/earnest_lease/earnestlease/protocol/Reply;" } : Jvm.MethodName) prog_50_method_4_code (1 : Nat) (Option.some (Jvm.ClassFile.FieldType.object "com/example/earnest_lease/earnestlease/protocol/Reply"))).before args0 about1 = true := code_word (m := ⟨9, 2⟩) (meth := k9m2) (c := k9c2) (by decide +kernel) rfl rfl rfl (by decide +kernel)
set_option maxRecDepth 65536 in
theorem w_c3 : (Jvm.Cond.code ({ cls := "com/example/earnest_lease/earnestlease/protocol/Reply", name := "<init>", desc := "(Lcom/example/earnest_lease/earnestlease/protocol/Reply$Outcome;JLjava/lang/String;)V" } : Jvm.MethodName) prog_50_method_1_code (5 : Nat) (Option.none : Option Jvm.ClassFile.FieldType)).before args0 about1 = true := code_word (m := ⟨9, 0⟩) (meth := k9m0) (c := k9c0) (by decide +kernel) rfl rfl rfl (by decide +kernel)
set_option maxRecDepth 65536 in
theorem w_c4 : (Jvm.Cond.code ({ cls := "java/lang/Record", name := "<init>", desc := "()V" } : Jvm.MethodName) jdk_30_method_1_code (1 : Nat) (Option.none : Option Jvm.ClassFile.FieldType)).before args0 about1 = true := code_word (m := ⟨7, 0⟩) (meth := k7m0) (c := k7c0) (by decide +kernel) rfl rfl rfl (by decide +kernel)
set_option maxRecDepth 65536 in
theorem w_c5 : (Jvm.Cond.code ({ cls := "java/lang/Object", name := "<init>", desc := "()V" } : Jvm.MethodName) object_method_1_code (1 : Nat) (Option.none : Option Jvm.ClassFile.FieldType)).before args0 about1 = true := code_word (m := ⟨0, 0⟩) (meth := k0m0) (c := k0c0) (by decide +kernel) rfl rfl rfl (by decide +kernel)
set_option maxRecDepth 65536 in
theorem w_c6 : (Jvm.Cond.code ({ cls := "com/example/earnest_lease/earnestlease/protocol/Reply", name := "outcome", desc := "()Lcom/example/earnest_lease/earnestlease/protocol/Reply$Outcome;" } : Jvm.MethodName) prog_50_method_9_code (1 : Nat) (Option.some (Jvm.ClassFile.FieldType.object "com/example/earnest_lease/earnestlease/protocol/Reply$Outcome"))).before args0 about1 = true := code_word (m := ⟨9, 3⟩) (meth := k9m3) (c := k9c3) (by decide +kernel) rfl rfl rfl (by decide +kernel)
set_option maxRecDepth 65536 in
theorem w_c7 : (Jvm.Cond.code ({ cls := "com/example/earnest_lease/earnestlease/protocol/Reply", name := "token", desc := "()J" } : Jvm.MethodName) prog_50_method_10_code (1 : Nat) (Option.some Jvm.ClassFile.FieldType.long)).before args0 about1 = true := code_word (m := ⟨9, 4⟩) (meth := k9m4) (c := k9c4) (by decide +kernel) rfl rfl rfl (by decide +kernel)
set_option maxRecDepth 65536 in
theorem w_c8 : (Jvm.Cond.code ({ cls := "com/example/earnest_lease/earnestlease/protocol/Reply", name := "reason", desc := "()Ljava/lang/String;" } : Jvm.MethodName) prog_50_method_11_code (1 : Nat) (Option.some (Jvm.ClassFile.FieldType.object "java/lang/String"))).before args0 about1 = true := code_word (m := ⟨9, 5⟩) (meth := k9m5) (c := k9c5) (by decide +kernel) rfl rfl rfl (by decide +kernel)
set_option maxRecDepth 65536 in
theorem w_c9 : (Jvm.Cond.code ({ cls := "java/lang/String", name := "isEmpty", desc := "()Z" } : Jvm.MethodName) jdk_42_method_55_code (1 : Nat) (Option.some Jvm.ClassFile.FieldType.boolean)).before args0 about1 = true := code_word (m := ⟨12, 1⟩) (meth := k12m1) (c := k12c1) (by decide +kernel) rfl rfl rfl (by decide +kernel)
set_option maxRecDepth 65536 in
theorem w_c10 : (Jvm.Cond.code ({ cls := "com/example/earnest_lease/earnestlease/protocol/Reply", name := "interim", desc := "()Z" } : Jvm.MethodName) prog_50_method_2_code (1 : Nat) (Option.some Jvm.ClassFile.FieldType.boolean)).before args0 about1 = true := code_word (m := ⟨9, 1⟩) (meth := k9m1) (c := k9c1) (by decide +kernel) rfl rfl rfl (by decide +kernel)
def codes1 : List Jvm.Cond := [Jvm.Cond.code x code maxLocals ret, Jvm.Cond.code ({ cls := "com/example/earnest_lease/earnestlease/protocol/ReplyOfPinLaw", name := "pick", desc := "(I)Lcom/example/earnest_lease/earnestlease/protocol/Reply$Outcome;" } : Jvm.MethodName) method_2_code (1 : Nat) (Option.some (Jvm.ClassFile.FieldType.object "com/example/earnest_lease/earnestlease/protocol/Reply$Outcome")), Jvm.Cond.code ({ cls := "com/example/earnest_lease/earnestlease/protocol/Reply", name := "of", desc := "(Lcom/example/earnest_lease/earnestlease/protocol/Reply$Outcome;)Lcom/example/earnest_lease/earnestlease/protocol/Reply;" } : Jvm.MethodName) prog_50_method_4_code (1 : Nat) (Option.some (Jvm.ClassFile.FieldType.object "com/example/earnest_lease/earnestlease/protocol/Reply")), Jvm.Cond.code ({ cls := "com/example/earnest_lease/earnestlease/protocol/Reply", name := "<init>", desc := "(Lcom/example/earnest_lease/earnestlease/protocol/Reply$Outcome;JLjava/lang/String;)V" } : Jvm.MethodName) prog_50_method_1_code (5 : Nat) (Option.none : Option Jvm.ClassFile.FieldType), Jvm.Cond.code ({ cls := "java/lang/Record", name := "<init>", desc := "()V" } : Jvm.MethodName) jdk_30_method_1_code (1 : Nat) (Option.none : Option Jvm.ClassFile.FieldType), Jvm.Cond.code ({ cls := "java/lang/Object", name := "<init>", desc := "()V" } : Jvm.MethodName) object_method_1_code (1 : Nat) (Option.none : Option Jvm.ClassFile.FieldType), Jvm.Cond.code ({ cls := "com/example/earnest_lease/earnestlease/protocol/Reply", name := "outcome", desc := "()Lcom/example/earnest_lease/earnestlease/protocol/Reply$Outcome;" } : Jvm.MethodName) prog_50_method_9_code (1 : Nat) (Option.some (Jvm.ClassFile.FieldType.object "com/example/earnest_lease/earnestlease/protocol/Reply$Outcome")), Jvm.Cond.code ({ cls := "com/example/earnest_lease/earnestlease/protocol/Reply", name := "token", desc := "()J" } : Jvm.MethodName) prog_50_method_10_code (1 : Nat) (Option.some Jvm.ClassFile.FieldType.long), Jvm.Cond.code ({ cls := "com/example/earnest_lease/earnestlease/protocol/Reply", name := "reason", desc := "()Ljava/lang/String;" } : Jvm.MethodName) prog_50_method_11_code (1 : Nat) (Option.some (Jvm.ClassFile.FieldType.object "java/lang/String")), Jvm.Cond.code ({ cls := "java/lang/String", name := "isEmpty", desc := "()Z" } : Jvm.MethodName) jdk_42_method_55_code (1 : Nat) (Option.some Jvm.ClassFile.FieldType.boolean), Jvm.Cond.code ({ cls := "com/example/earnest_lease/earnestlease/protocol/Reply", name := "interim", desc := "()Z" } : Jvm.MethodName) prog_50_method_2_code (1 : Nat) (Option.some Jvm.ClassFile.FieldType.boolean)]
set_option maxRecDepth 65536 in
theorem codes_eq : words1.filter isCode = codes1 := rfl
theorem w_codes : ∀ c ∈ words1.filter isCode, c.before args0 about1 = true := by
  rw [codes_eq]
  intro c hc
  simp only [codes1, List.mem_cons, List.not_mem_nil, or_false] at hc
  rcases hc with rfl | rfl | rfl | rfl | rfl | rfl | rfl | rfl | rfl | rfl | rfl
  · exact w_c0
  · exact w_c1
  · exact w_c2
  · exact w_c3
  · exact w_c4
  · exact w_c5
  · exact w_c6
  · exact w_c7
  · exact w_c8
  · exact w_c9
  · exact w_c10
set_option maxRecDepth 65536 in
theorem w_t1 : (words1.take 24).all (fun c => isCode c || c.before args0 about1) = true := by decide +kernel
set_option maxRecDepth 65536 in
theorem w_t2 : ((words1.drop 24).take 24).all (fun c => isCode c || c.before args0 about1) = true := by decide +kernel
set_option maxRecDepth 65536 in
theorem w_t3 : (((words1.drop 24).drop 24).take 24).all (fun c => isCode c || c.before args0 about1) = true := by decide +kernel
set_option maxRecDepth 65536 in
theorem w_t4 : (((words1.drop 24).drop 24).drop 24).all (fun c => isCode c || c.before args0 about1) = true := by decide +kernel
theorem w_tables : (allAtoms (Jvm.Cond.code x code maxLocals ret :: tables_1)).before args0 about1 = true := by
  rw [allAtoms_all]
  show words1.all (fun c => c.before args0 about1) = true
  refine all_split ?_ w_codes
  rw [← List.take_append_drop 24 words1, List.all_append, w_t1, ← List.take_append_drop 24 (words1.drop 24), List.all_append, w_t2, ← List.take_append_drop 24 ((words1.drop 24).drop 24), List.all_append, w_t3, w_t4]
  rfl
set_option maxRecDepth 65536 in
theorem w_rest : rest_1_c.before args0 about1 = true := by decide +kernel
set_option maxRecDepth 65536 in
theorem w_case : (Jvm.Cond.and given_1 narrow_1).before args0 about1 = true := by decide +kernel
set_option maxRecDepth 65536 in
theorem w_consts : constsHeld consts_1 about1 := Jvm.Lit.constsHeldB_iff.mp (by decide +kernel)
theorem w_applies : (headSpec (Jvm.Cond.code x code maxLocals ret :: tables_1) room_1).applies x e0.platform about1 = true :=
  (Spec.applies_iff w_frames).mpr ⟨w_running, w_runnable, w_alone, w_named, w_hears, w_ripe, w_room, w_tables⟩
theorem atStart : AtStart classFile x code maxLocals ret World_1 tables_1 room_1 Calls_1 rest_1 Pre_1 launch0 p0 e0 about1 theMethod args0 below0 :=
  ⟨lists_1, trivial, launch0.admits_env _ _ _, launch0.least_env, fairChoices_fair.cas, fairChoices_fair.clock, w_frames, w_args, w_heap, w_applies, ⟨w_consts, trivial⟩, w_rest, w_case⟩
end start1
theorem witness_1 : WitnessClaimed_1 := ⟨start1.p0, start1.e0, start1.about1, start1.theMethod, start1.args0, start1.below0, start1.atStart⟩
end Jvm.Pilot.@@N@@
